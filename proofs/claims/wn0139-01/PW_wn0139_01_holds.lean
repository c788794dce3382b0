import PyProof.Rows.All
import Wide.All
import OpenK.AllK
import Wide.FinOn
import KE.KSetAt
import KE.BitLaws
import KE.IntBitsLaws
import PySem.Challenge.RW_wn0139_01
set_option Elab.async false

section
open PySem PySem.W PyProof.Rows
set_option maxRecDepth 100000
set_option maxHeartbeats 0
namespace Mine
open_top hd for PySem.Challenge.rw_wn0139_01
end Mine
end

section
/- plain arithmetic of digits: no program in sight -/
namespace Mine
noncomputable def ev (X : Int) : List Int → Int
  | [] => 0
  | d :: ds => d + X * ev X ds
noncomputable def seg (ds : List Int) (a b : Int) : List Int := (ds.drop a.toNat).take (b - a).toNat

theorem ev_append (X : Int) : ∀ (as bs : List Int), ev X (as ++ bs) = ev X as + X ^ as.length * ev X bs
  | [], bs => by simp [ev]
  | d :: as, bs => by
    rw [List.cons_append, ev, ev, ev_append X as bs, List.length_cons, Int.pow_succ]
    grind
theorem seg_len {ds : List Int} {a b : Int} (h0 : 0 ≤ a) (hb : b ≤ ds.length) : (seg ds a b).length = (b - a).toNat := by
  unfold seg
  rw [List.length_take, List.length_drop]
  omega
theorem seg_split {ds : List Int} {a c b : Int} (h0 : 0 ≤ a) (h1 : a ≤ c) (h2 : c ≤ b) : seg ds a b = seg ds a c ++ seg ds c b := by
  unfold seg
  have e1 : (b - a).toNat = (c - a).toNat + (b - c).toNat := by omega
  have e2 : c.toNat = a.toNat + (c - a).toNat := by omega
  rw [e1, List.take_add, List.drop_drop, e2]
theorem seg_all (ds : List Int) : seg ds 0 ds.length = ds := by
  unfold seg; simp
theorem seg_one {ds : List Int} {a : Int} (h0 : 0 ≤ a) (hb : a + 1 ≤ ds.length) : seg ds a (a + 1) = [ds.getD a.toNat 0] := by
  unfold seg
  have e : (a + 1 - a).toNat = 1 := by omega
  have hlt : a.toNat < ds.length := by omega
  rw [e, List.drop_eq_getElem_cons hlt, List.take_succ_cons, List.take_zero]
  simp [hlt]
theorem d2_leaf {ds : List Int} {a b X : Int} (h : a + 1 = b) (h0 : 0 ≤ a) (hb : b ≤ ds.length) : ds.getD a.toNat 0 = ev X (seg ds a b) := by
  subst h
  rw [seg_one h0 hb]; simp [ev]
theorem d2_node {ds : List Int} {a b c sh n v1 v2 : Int} (hc : a + b = 2 * c ∨ a + b = 2 * c + 1) (h0 : 0 ≤ a) (hab : a < b) (hb : b ≤ ds.length) (hn : 0 ≤ n)
    (e1 : v1 = ev (2 ^ n.toNat) (seg ds c b)) (e2 : v2 = ev (2 ^ n.toNat) (seg ds a c)) (es : sh = (c - a) * n) : v1 * 2 ^ sh.toNat + v2 = ev (2 ^ n.toNat) (seg ds a b) := by
  rw [seg_split (c := c) h0 (by omega) (by omega), ev_append, seg_len h0 (by omega), ← e1, ← e2, ← Int.pow_mul]
  have : sh.toNat = n.toNat * (c - a).toNat := by
    have h1 : ((c - a).toNat : Int) = c - a := by omega
    have h2 : (n.toNat : Int) = n := by omega
    have h3 : sh = ((n.toNat * (c - a).toNat : Nat) : Int) := by
      rw [es, Int.natCast_mul, h1, h2, Int.mul_comm]
    omega
  rw [this]; grind
theorem sh_nonneg {a b c sh n : Int} (es : sh = (c - a) * n) (hc : a + b = 2 * c ∨ a + b = 2 * c + 1) (hab : a < b) (hn : 0 ≤ n) : 0 ≤ sh := by
  rw [es]; exact Int.mul_nonneg (by omega) hn
theorem sh_le {a b c sh n M : Int} (es : sh = (c - a) * n) (hc : a + b = 2 * c ∨ a + b = 2 * c + 1) (h0 : 0 ≤ a) (hab : a < b) (hb : b ≤ 64) (hn : 0 ≤ n) (hM : n ≤ M) : sh ≤ 64 * M := by
  rw [es]
  exact Int.mul_le_mul (by omega) hM hn (by omega)
end Mine
end

section
open PySem PySem.W PySem.Calls PyProof.Rows
set_option maxRecDepth 100000
set_option maxHeartbeats 0
namespace Mine
abbrev intBits := Builtin.Int.intBits
/-- a walk from an unknown post-condition: what the great one holds is met at the end -/
theorem opq {α : Type} {M : Model} {A : Around} {E : Value → Shared → Prop} {t : Sem α} {Q : α → Shared → Prop} {s : Shared} (h : ∀ QQ : α → Shared → Prop, (∀ a s', Q a s' → QQ a s') → wpAny M A t QQ (fun _ _ => False) s) : wpAny M A t Q E s :=
  wpAny_mono (h Q fun _ _ x => x) (fun _ _ x => x) fun _ _ x => x.elim
theorem put_eq {m f : Str → Option Value} {a : Str} {v : Value} (h : m a = some v) (hf : f = m) : (fun y => if y = a then some v else f y) = m := by
  funext y
  by_cases e : y = a
  · rw [if_pos e, e, h]
  · rw [if_neg e, hf]
theorem fr_is {G h : Heap} {L : Addr} {m f : Str → Option Value} (F : Fr G L h m) (e : f = m) : Fr G L h f := e ▸ F
theorem fr_cut {G h : Heap} {L : Addr} {m : Str → Option Value} (F : Fr G L h m) (P : (Str → Option Value) → Str → Option Value) (e : P m = m) : ∃ u, P u = m ∧ Fr G L h (P u) := ⟨m, e, fr_is F e⟩
section
variable {prog : Program} {w : World} {A : Around} {E : Value → Shared → Prop} {s : Shared} {h₀ : Heap} {L : Addr} {m : Str → Option Value} {news : List (Addr × Obj)} {Q : Value → Shared → Prop}
theorem mulOk {a b : Int} (h : intBits a + intBits b ≤ 2 ^ 27) : IntMulOk a b := by
  unfold IntMulOk Builtin.Int.intTooBig
  have : ¬ (((intBits a : Nat) : Int) + ((intBits b : Nat) : Int) > ((bitsLine : Nat) : Int)) := by
    show ¬ (_ > ((2 ^ 27 : Nat) : Int)); omega
  simp only [Bool.and_eq_true, decide_eq_true_eq, not_and]
  intro _ h2
  exact absurd h2 this
theorem shr1_op {a : Int} {t u : Tok} (h : ∀ c t', (a = 2 * c ∨ a = 2 * c + 1) → Q (.int c t') { s with toks := s.toks + 1 }) :
    wpAny (model prog w) A (binaryOp .RShift (.int a t) (.int 1 u)) Q E s := by
  refine rshift_int (by decide) (h _ _ ?_)
  have e : a.fdiv (2 ^ (1 : Int).toNat) = a / 2 := by
    rw [Int.fdiv_eq_ediv_of_nonneg _ (by decide)]; rfl
  rw [e]; omega
theorem shr_op {a n : Int} {t u : Tok} (hn : 0 ≤ n) (h : ∀ c t', c = a / 2 ^ n.toNat → Q (.int c t') { s with toks := s.toks + 1 }) :
    wpAny (model prog w) A (binaryOp .RShift (.int a t) (.int n u)) Q E s := by
  refine rshift_int hn (h _ _ ?_)
  rw [Int.fdiv_eq_ediv_of_nonneg _ (Int.le_of_lt (Int.pow_pos (by decide)))]
theorem fdiv_op {a n : Int} {t u : Tok} (hn : 0 < n) (hs : n < 2 ^ 20) (h : ∀ c t', c = a / n → Q (.int c t') { s with toks := s.toks + 1 }) :
    wpAny (model prog w) A (binaryOp .FloorDiv (.int a t) (.int n u)) Q E s := by
  refine floordiv_int (by omega) (h _ _ ?_) (.inl (PyProof.noPylong_small (by omega)))
  rw [Int.fdiv_eq_ediv_of_nonneg _ (Int.le_of_lt hn)]
theorem rep_op {D : Addr} {z x : Int} {tz u : Tok} {e : Nat} (F : Fr h₀ L s.heap m) (N : News h₀ L s.heap news) (hm : (D, PySem.W.listOf [Value.int z tz].toArray e) ∈ news) (h0 : 0 ≤ x) (h1 : x ≤ 256)
    (h : ∀ l ws h', Fr h₀ L h' m → News h₀ L h' ((l, PySem.W.listOf ws.toArray 0) :: news) → (∀ p ∈ news, p.1 < l) → IntsAre ws (List.replicate x.toNat z) → Q (.ref l) { s with heap := h' }) :
    wpAny (model prog w) A (binaryOp .Mult (.ref D) (.int x u)) Q E s := by
  refine KMa.mul (vs := [Value.int z tz]) F N ⟨_, N.get hm, rfl, e, rfl⟩ (by omega) (by omega) (by simp; omega) rfl fun l h' F' N' hl => h l _ h' F' N' hl ?_
  generalize x.toNat = k
  induction k with
  | zero => exact .nil
  | succ k ih => rw [List.replicate_succ, List.replicate_succ, List.flatten_cons]; exact .cons _ _ ih
theorem xor_op {a b : Int} {t u : Tok} (h : ∀ c t', c = Builtin.bitXor a b → Q (.int c t') { s with toks := s.toks + 1 }) :
    wpAny (model prog w) A (binaryOp .BitXor (.int a t) (.int b u)) Q E s := xor_int (h _ _ rfl)
theorem mul_op {a b : Int} {t u : Tok} (hm : IntMulOk a b) (h : ∀ c t', c = a * b → Q (.int c t') { s with toks := s.toks + 1 }) :
    wpAny (model prog w) A (binaryOp .Mult (.int a t) (.int b u)) Q E s := mul_int (h _ _ rfl) hm
theorem shl_op {a n : Int} {t u : Tok} (hn : 0 ≤ n) (hs : (intBits a : Int) + n ≤ 2 ^ 27) (h : ∀ c t', c = a * 2 ^ n.toNat → Q (.int c t') { s with toks := s.toks + 1 }) :
    wpAny (model prog w) A (binaryOp .LShift (.int a t) (.int n u)) Q E s := lshift_int hn hs (h _ _ rfl)
theorem item_op {value slice : PySem.Expr} {l : Addr} {vs : List Value} {ds : List Int} {e : Nat} {k : Int} {u : Tok} (N : News h₀ L s.heap news) (hm : (l, PySem.W.listOf vs.toArray e) ∈ news) (hi : IntsAre vs ds)
    (h0 : 0 ≤ k) (hk : k < ds.length) (hs : ds.length < 2 ^ 62) (h : ∀ v t, v = ds.getD k.toNat 0 → Q (.int v t) s)
    (hsub : subscripted slice false (.ref l) (.int k u) = operate [.ref l, .int k u] (getItem (.ref l) (.int k u)) := by with_unfolding_all rfl) :
    wpAny (model prog w) A (subscriptTail value slice (.ref l) (.int k u)) Q E s := by
  have hl : s.heap.IsList l vs.toArray := ⟨_, N.get hm, rfl, e, rfl⟩
  obtain ⟨t, ht⟩ := hi.get k.toNat (ds.getD k.toNat 0) (by
    rw [List.getD_eq_getElem?_getD]
    have : k.toNat < ds.length := by omega
    simp [this])
  refine item_litK hl h0 (by omega) ht (h _ t rfl) hsub
end
section
variable {prog : Program} {w : World} {A : Around} {E : Value → Shared → Prop} {s : Shared} {h₀ : Heap} {L : Addr} {news : List (Addr × Obj)}
theorem truthy_op {l : Addr} {vs : List Value} {ds : List Int} {e : Nat} {Q : Bool → Shared → Prop} (N : News h₀ L s.heap news) (hm : (l, PySem.W.listOf vs.toArray e) ∈ news) (hi : IntsAre vs ds) (hb : ds.length < 2 ^ 20)
    (h : Q (decide (0 < ds.length)) { s with toks := s.toks + 1 + 1 }) : wpAny (model prog w) A (truthy (.ref l)) Q E s :=
  truthy_list_made ⟨_, N.get hm, rfl, e, rfl⟩ hi.carried (by rw [List.length_map]; omega) (by rw [List.length_map]; exact h)
theorem len_op {l : Addr} {vs : List Value} {ds : List Int} {e : Nat} {Q : Value → Shared → Prop} (N : News h₀ L s.heap news) (hm : (l, PySem.W.listOf vs.toArray e) ∈ news) (hi : IntsAre vs ds) (hb : ds.length < 2 ^ 20)
    (h : Q (.int ds.length (s.toks + 1)) { s with toks := s.toks + 1 + 1 }) : wpAny (model prog w) A (call (.builtin "len") [.ref l]) Q E s :=
  len_list_made ⟨_, N.get hm, rfl, e, rfl⟩ hi.carried (by rw [List.length_map]; omega) (by rw [List.length_map]; exact h)
end
theorem d2_shl {ds : List Int} {a b c sh n v : Int} (hbits : ∀ a b : Int, 0 ≤ a → a < b → b ≤ ds.length → intBits (ev (2 ^ n.toNat) (seg ds a b)) ≤ 2 ^ 20)
    (es : sh = (c - a) * n) (hc : a + b = 2 * c ∨ a + b = 2 * c + 1) (h0 : 0 ≤ a) (hab : a < b) (hb : b ≤ ds.length) (hl : ds.length < 64) (hn : 0 ≤ n) (hM : n ≤ 2 ^ 20) (hne : a + 1 ≠ b)
    (e : v = ev (2 ^ n.toNat) (seg ds c b)) : (intBits v : Int) + sh ≤ 2 ^ 27 := by
  have q1 := sh_le es hc h0 hab (by omega) hn hM
  have q2 := hbits c b (by omega) (by omega) hb
  rw [← e] at q2
  omega
structure Mark : Prop where
  mk :: (one : True)
theorem mark : Mark := ⟨trivial⟩
noncomputable def Stop (P : Prop) : Prop := P
theorem Stop.on {P : Prop} (h : Stop P) : P := h
theorem Stop.off {P : Prop} (h : P) : Stop P := h
end Mine
end

section
open PySem PySem.W PySem.Spec PySem.Calls PyProof.Rows
set_option maxRecDepth 100000
set_option maxHeartbeats 0
namespace Mine
/-- the state of a code table with at most the one code of `def inner` -/
noncomputable def TabSt (line col : Int) (qual : Str) (news : List (Addr × Obj)) (ps : Array Value) : Prop :=
  ps = #[] ∨ ∃ (c' : Addr) (oc : Obj) (cvs : Array Value) (tq : Tok), ps = #[rawInt line, rawInt col, .ref c'] ∧ (c' : Nat) ≠ 37 ∧ (c' : Nat) ≠ 30 ∧ (c', oc) ∈ news ∧ oc.data = .fields cvs ∧ cvs[1]? = some (.str qual tq)

section
variable {prog : Program} {w : World} {A : Around} {E : Value → Shared → Prop} {s : Shared} {h₀ : Heap} {L a c P ci : Addr} {oi : Obj} {m mg mb : Str → Option Value} {cn : Str} {cs : Scope} {ccd : Value} {cl : List (Str × Addr)} {news : List (Addr × Obj)} {g : Obj → List (Addr × Obj)}
  {p : Program} {loose : List Str} {mean : ExcName → Option Value} {name : Str} {params : Arguments} {body : List Stmt} {scope : Scope} {ps : Array Value} {pos : Pos} {clos : List (Str × Addr)} {v₀ : Option Value} {news₀ : List (Addr × Obj)} {Q : Flow → Shared → Prop}

theorem UpdF.mem {d : Addr} {o o' : Obj} : ∀ {l : List (Addr × Obj)} {g : Obj → List (Addr × Obj)}, UpdF d o l g → ∀ q ∈ g o', q = (d, o') ∨ (q ∈ l ∧ q.1 ≠ d)
  | _, _, .head h, q, hq => by
    rcases List.mem_cons.mp hq with e | e
    · exact .inl e
    · exact .inr ⟨.tail _ e, h q e⟩
  | _, _, .tail h r, q, hq => by
    rcases List.mem_cons.mp hq with e | e
    · subst e; exact .inr ⟨.head _, h⟩
    · rcases UpdF.mem r q e with e | ⟨e, e'⟩
      · exact .inl e
      · exact .inr ⟨.tail _ e, e'⟩
theorem UpdF.self {d : Addr} {o : Obj} : ∀ {l : List (Addr × Obj)} {g : Obj → List (Addr × Obj)}, UpdF d o l g → g o = l ∧ (d, o) ∈ l
  | _, _, .head _ => ⟨rfl, .head _⟩
  | _, _, .tail _ r => by
    obtain ⟨e, hm⟩ := UpdF.self r
    exact ⟨by show _ :: _ = _; rw [e], .tail _ hm⟩

inductive Pick (d : Addr) (o : Obj) : List (Addr × Obj) → List (Addr × Obj) → Prop
  | here {r} : Pick d o ((d, o) :: r) r
  | there {p r r'} : Pick d o r r' → Pick d o (p :: r) (p :: r')
theorem Pick.sub {d : Addr} {o : Obj} : ∀ {l r : List (Addr × Obj)}, Pick d o l r → ∀ q ∈ (d, o) :: r, q ∈ l
  | _, _, .here, q, hq => hq
  | _, _, .there h, q, hq => by
    rcases List.mem_cons.mp hq with e | e
    · exact .tail _ (Pick.sub h _ (e ▸ .head _))
    · rcases List.mem_cons.mp e with e | e
      · exact e ▸ .head _
      · exact .tail _ (Pick.sub h _ (.tail _ e))
theorem news_sub {h₀ h : Heap} {L : Addr} {news news' : List (Addr × Obj)} (N : News h₀ L h news) (hs : ∀ q ∈ news', q ∈ news) : News h₀ L h news' := fun p hp => N p (hs p hp)
theorem def_any (F : Fr h₀ L s.heap m) (N₀ : News h₀ L s.heap news₀) (pk : Pick ci oi news₀ news) (T : Top p loose mean mg mb h₀) (C : CodeHd h₀ c P) (hcd : ccd = .ref c) (U : UpdF P (tabObj ps) news g)
    (hciP : ci ≠ P) (hci : ∀ q ∈ news, q.1 ≠ ci) (hd : oi.data = .cell v₀) (hc : cl.lookup name = some ci)
    (h37 : ∃ o, ((37 : Nat), o) ∈ news) (h30 : ∃ o, ((30 : Nat), o) ∈ news) (S : TabSt pos.line pos.col (qualnameIn (envX cn cs L a ccd cl) name name) news ps)
    (hd0 : params.defaults = []) (hk0 : params.kw_defaults = []) (ha : annTrees params none (envX cn cs L a ccd cl) = [])
    (hcl : closureFor scope (envX cn cs L a ccd cl) = pure clos)
    (h : ∀ f c' oc o' cvs tq ctv doc h' tk, Fr h₀ L h' m →
      News h₀ L h' ((f, fnMade name (qualnameIn (envX cn cs L a ccd cl) name name) params body scope clos doc ((mg "__name__").getD .none) c' ctv) :: (ci, o') :: (c', oc) :: g (tabObj #[rawInt pos.line, rawInt pos.col, .ref c'])) →
      o'.data = .cell (some (.ref f)) → oc.data = .fields cvs → cvs[1]? = some (.str (qualnameIn (envX cn cs L a ccd cl) name name) tq) → (∀ q ∈ news, q.1 < f) → (c' : Nat) ≠ 37 → (c' : Nat) ≠ 30 → Q .next { s with heap := h', toks := tk })
    (hk : cs.kind = .function := by rfl) (hx : (envX cn cs L a ccd cl).kindOf name = some .cell := by rfl) :
    wpAny (model prog w) A (exec (.FunctionDef name params body [] none [] scope none name pos) (envX cn cs L a ccd cl)) Q E s := by
  have N := news_sub N₀ pk.sub
  refine nestDef_K hd0 hk0 ha ?_
  rcases S with rfl | ⟨c', oc, cvs, tq, rfl, n37, n30, hm, d1, d2⟩
  · refine nest_K (news := (ci, oi) :: news) (g := fun o => (ci, oi) :: g o) F N T C hcd (.tail hciP U) trivial rfl hcl fun f c' oc vs t ctv doc h' tk F' N' d1 d2 l1 l2 => ?_
    have hne1 : f ≠ ci := Nat.ne_of_gt (Nat.lt_trans (l1 _ (.head _)) l2)
    have hne2 : c' ≠ ci := Nat.ne_of_gt (l1 _ (.head _))
    have hne3 : ∀ o, ∀ q ∈ g o, q.1 ≠ ci := fun o q hq => by
      rcases UpdF.mem U q hq with rfl | ⟨e, _⟩
      · exact fun e => hciP e.symm
      · exact hci q e
    refine storeX_C (g := fun o' => (f, _) :: (c', oc) :: (ci, o') :: g _) F' N' hc (.tail hne1 (.tail hne2 (.head (hne3 _)))) hd (fun h'' o' F'' N'' d'' => ?_) hk hx
    refine h f c' oc o' vs t ctv doc h'' tk F'' (fun q hq => N'' q ?_) d'' d1 d2 (fun q hq => Nat.lt_trans (l1 q (.tail _ hq)) l2) (Nat.ne_of_gt (l1 _ (.tail _ h37.choose_spec))) (Nat.ne_of_gt (l1 _ (.tail _ h30.choose_spec)))
    simp only [List.mem_cons] at hq ⊢
    rcases hq with e | e | e | e
    · exact .inl e
    · exact .inr (.inr (.inl e))
    · exact .inr (.inl e)
    · exact .inr (.inr (.inr e))
  · have hmm : (P, tabObj #[rawInt pos.line, rawInt pos.col, .ref c']) ∈ (ci, oi) :: news := .tail _ (UpdF.self U).2
    refine nestHit_K (c' := c') F N T C hcd hmm (by simp [TriplesOk, rawInt]) (by simp [codeAmong, rawInt]) hcl fun f ctv doc h' tk F' N' l1 => ?_
    have hne1 : f ≠ ci := Nat.ne_of_gt (l1 _ (.head _))
    refine storeX_C (g := fun o' => (f, _) :: (ci, o') :: news) F' N' hc (.tail hne1 (.head hci)) hd (fun h'' o' F'' N'' d'' => ?_) hk hx
    refine h f c' oc o' cvs tq ctv doc h'' tk F'' (fun q hq => N'' q ?_) d'' d1 d2 (fun q hq => l1 q (.tail _ hq)) n37 n30
    rw [(UpdF.self U).1] at hq
    simp only [List.mem_cons] at hq ⊢
    rcases hq with e | e | e | e
    · exact .inl e
    · exact .inr (.inl e)
    · subst e; exact .inr (.inr hm)
    · exact .inr (.inr e)
abbrev tupOf (a b : Int) (t u : Tok) : Obj := { cls := .type "tuple", data := .seq #[.int a t, .int b u] }
theorem divmod_op {prog : Program} {w : World} {A : Around} {E : Value → Shared → Prop} {s : Shared} {h₀ : Heap} {L : Addr} {m : Str → Option Value} {news : List (Addr × Obj)} {Q : Value → Shared → Prop} {a b : Int} {t u : Tok} (F : Fr h₀ L s.heap m) (N : News h₀ L s.heap news) (hb : 0 < b) (hbb : intBits b ≤ 4096)
    (h : ∀ (d : Nat) t1 t2 h' tk, Fr h₀ L h' m → News h₀ L h' ((d, tupOf (a / b) (a % b) t1 t2) :: news) → (∀ q ∈ news, q.1 < d) → Q (.ref d) { s with heap := h', toks := tk }) :
    wpAny (model prog w) A (call (.builtin "divmod") [.int a t, .int b u]) Q E s := by
  refine divmod_N F N (by omega) (fun h' F' N' => ?_) (.inl (PyProof.noPylong_of_log2 ?_))
  · rw [Int.fdiv_eq_ediv_of_nonneg _ (Int.le_of_lt hb), Int.fmod_eq_emod_of_nonneg _ (Int.le_of_lt hb)] at N'
    exact h _ _ _ h' _ F' N' (fun q hq => Heap.lt_size (N q hq).1)
  · have : b.natAbs < 2 ^ 4096 := intBits_le_iff.mp hbb
    have h0 : b.natAbs ≠ 0 := by omega
    have := (Nat.log2_lt h0).mpr this
    omega
theorem ne_code {h₀ h : Heap} {L c l : Addr} {oc : Obj} {cvs its : Array Value} {e : Nat} {news : List (Addr × Obj)} (N : News h₀ L h news) (hm : (c, oc) ∈ news) (hd : oc.data = .fields cvs) (hl : (l, PySem.W.listOf its e) ∈ news) : c ≠ l := by
  rintro rfl
  have e1 := N.get hm
  rw [N.get hl] at e1
  cases e1
  cases hd
theorem lt_of_l1 {d x : Nat} {l : List (Addr × Obj)} {X Y : Prop} (h : X ∧ Y ∧ AllLt d l) (hx : d ≤ x) : ∀ p ∈ l, p.1 < x := by
  obtain ⟨_, _, h⟩ := h
  exact fun p hp => Nat.lt_of_lt_of_le (ktn_ltOf h p hp) hx
theorem ne_of_l1 {d x : Nat} {l : List (Addr × Obj)} {X Y : Prop} (h : X ∧ Y ∧ AllLt d l) (hx : d ≤ x) : ∀ p ∈ l, p.1 ≠ x := by
  obtain ⟨_, _, h⟩ := h
  intro p hp e
  have q := ktn_ltOf h p hp
  rw [e] at q
  exact absurd q (Nat.not_lt.mpr hx)
theorem TabSt.up {line col : Int} {qual : Str} {news news' : List (Addr × Obj)} {ps : Array Value} (S : TabSt line col qual news ps) (hs : ∀ q ∈ news, q ∈ news') : TabSt line col qual news' ps := by
  rcases S with h | ⟨c', oc, cvs, tq, h1, h2, h3, h4, h5, h6⟩
  · exact .inl h
  · exact .inr ⟨c', oc, cvs, tq, h1, h2, h3, hs _ h4, h5, h6⟩
end
end Mine
end

section
/- digits of a number: plain -/
namespace Mine
open PySem PyProof.Rows
noncomputable def dg (X : Int) : Nat → Int → List Int
  | 0, _ => []
  | k + 1, a => a % X :: dg X k (a / X)
theorem dg_len (X : Int) : ∀ (k : Nat) (a : Int), (dg X k a).length = k
  | 0, _ => rfl
  | k + 1, a => by rw [dg, List.length_cons, dg_len X k]
theorem dg_add {X : Int} (hX : 0 < X) : ∀ (i j : Nat) (a : Int), dg X (i + j) a = dg X i (a % X ^ i) ++ dg X j (a / X ^ i)
  | 0, j, a => by simp [dg]
  | i + 1, j, a => by
    have e : i + 1 + j = (i + j) + 1 := by omega
    rw [e, dg, dg, dg_add hX i j, List.cons_append]
    have h1 : a % X ^ (i + 1) % X = a % X := Int.emod_emod_of_dvd a (by rw [Int.pow_succ]; exact Int.dvd_mul_left ..)
    have h2 : a % X ^ (i + 1) / X = a / X % X ^ i := by
      have hp : 0 < X ^ i := Int.pow_pos hX
      have q : a % (X * X ^ i) / X = a / X % X ^ i := by
        have z1 := Int.emod_def a (X * X ^ i)
        have z2 := Int.emod_def (a / X) (X ^ i)
        rw [Int.ediv_ediv_of_nonneg (Int.le_of_lt hX)] at z2
        rw [z1, z2]
        have z3 : a - X * X ^ i * (a / (X * X ^ i)) = a + X * (-(X ^ i * (a / (X * X ^ i)))) := by grind
        rw [z3, Int.add_mul_ediv_left _ _ (by omega)]
        omega
      rw [Int.pow_succ, Int.mul_comm]; exact q
    have h3 : a / X / X ^ i = a / X ^ (i + 1) := by
      rw [Int.ediv_ediv_of_nonneg (Int.le_of_lt hX), Int.pow_succ, Int.mul_comm]
    rw [h1, h2, h3]
theorem ev_dg {X : Int} (hX : 0 < X) : ∀ (k : Nat) (a : Int), 0 ≤ a → a < X ^ k → ev X (dg X k a) = a
  | 0, a, h0, h1 => by rw [dg, ev]; simp at h1; omega
  | k + 1, a, h0, h1 => by
    rw [dg, ev, ev_dg hX k (a / X) (Int.ediv_nonneg h0 (Int.le_of_lt hX)) (by
      apply Int.ediv_lt_of_lt_mul hX
      rw [← Int.pow_succ]; exact h1)]
    have := Int.emod_add_mul_ediv a X
    omega
theorem dg_mem {X : Int} (hX : 0 < X) : ∀ (k : Nat) (a : Int), ∀ d ∈ dg X k a, 0 ≤ d ∧ d < X
  | 0, _, _, h => nomatch h
  | k + 1, a, d, h => by
    rcases List.mem_cons.mp h with rfl | h
    · exact ⟨Int.emod_nonneg _ (by omega), Int.emod_lt_of_pos _ hX⟩
    · exact dg_mem hX k _ d h

noncomputable def spl (ds : List Int) (a : Int) (xs : List Int) : List Int := ds.take a.toNat ++ xs ++ ds.drop (a.toNat + xs.length)
theorem spl_len {ds : List Int} {a : Int} {xs : List Int} (h : a.toNat + xs.length ≤ ds.length) : (spl ds a xs).length = ds.length := by
  unfold spl; simp; omega
theorem spl_one {ds : List Int} {a : Int} {x : Int} (h : a.toNat < ds.length) : ds.set a.toNat x = spl ds a [x] := by
  unfold spl
  rw [List.set_eq_take_append_cons_drop, if_pos h]
  simp
theorem spl_all {ds xs : List Int} (h : xs.length = ds.length) : spl ds 0 xs = xs := by
  unfold spl; simp [h]
theorem spl_spl {ds : List Int} {a b : Int} {xs ys : List Int} (h0 : 0 ≤ a) (hb : b = a + xs.length) (h : a.toNat + xs.length + ys.length ≤ ds.length) : spl (spl ds a xs) b ys = spl ds a (xs ++ ys) := by
  unfold spl
  have hbn : b.toNat = a.toNat + xs.length := by omega
  have hl : (ds.take a.toNat).length = a.toNat := by rw [List.length_take]; omega
  have h1 : (ds.take a.toNat ++ xs).length = b.toNat := by rw [List.length_append, hl, hbn]
  have e1 : (ds.take a.toNat ++ xs ++ ds.drop (a.toNat + xs.length)).take b.toNat = ds.take a.toNat ++ xs := by
    rw [← h1]; exact List.take_left
  have e2 : (ds.take a.toNat ++ xs ++ ds.drop (a.toNat + xs.length)).drop (b.toNat + ys.length) = ds.drop (a.toNat + (xs ++ ys).length) := by
    rw [← h1, ← List.drop_drop, List.drop_left, List.drop_drop, List.length_append]
    congr 1; omega
  rw [e1, e2]
  simp only [List.append_assoc]
theorem bitXor_top {x : Int} (hx : 0 ≤ x) (s : Nat) : Builtin.bitXor x (x / 2 ^ s * 2 ^ s) = x % 2 ^ s := by
  have hp : (0 : Int) < 2 ^ s := Int.pow_pos (by decide)
  have hy : 0 ≤ x / 2 ^ s * 2 ^ s := Int.mul_nonneg (Int.ediv_nonneg hx (Int.le_of_lt hp)) (Int.le_of_lt hp)
  have hb : Builtin.bitAnd x (x / 2 ^ s * 2 ^ s) = x / 2 ^ s * 2 ^ s := by
    rw [bitAnd_pp hx hy]
    obtain ⟨n, rfl⟩ := Int.eq_ofNat_of_zero_le hx
    have e : ((n : Int) / 2 ^ s * 2 ^ s) = ((n >>> s) <<< s : Nat) := by
      rw [Nat.shiftLeft_eq, Nat.shiftRight_eq_div_pow]
      simp
    rw [e, Int.toNat_natCast, Int.toNat_natCast]
    congr 1
    apply Nat.eq_of_testBit_eq
    intro i
    simp only [Nat.testBit_and, Nat.testBit_shiftLeft, Nat.testBit_shiftRight]
    by_cases h : s ≤ i
    · have : s + (i - s) = i := by omega
      simp [h, this]
    · simp [h]
  rw [bitXor_and, hb]
  have := Int.emod_def x (2 ^ s)
  rw [this, Int.mul_comm (2 ^ s)]
  omega
theorem ndig {a n : Int} (ha : 0 ≤ a) (hn : 0 < n) : a < (2 ^ n.toNat) ^ (((Builtin.Int.intBits a : Int) + n - 1) / n).toNat := by
  have h1 : a.natAbs < 2 ^ Builtin.Int.intBits a := intBits_le_iff.mp (Nat.le_refl _)
  have h2 : Builtin.Int.intBits a ≤ n.toNat * (((Builtin.Int.intBits a : Int) + n - 1) / n).toNat := by
    have q := Int.mul_ediv_add_emod ((Builtin.Int.intBits a : Int) + n - 1) n
    have r := Int.emod_lt_of_pos ((Builtin.Int.intBits a : Int) + n - 1) hn
    have r0 : 0 ≤ ((Builtin.Int.intBits a : Int) + n - 1) / n := Int.ediv_nonneg (by omega) (by omega)
    have e : ((n.toNat * (((Builtin.Int.intBits a : Int) + n - 1) / n).toNat : Nat) : Int) = n * (((Builtin.Int.intBits a : Int) + n - 1) / n) := by
      rw [Int.natCast_mul, Int.toNat_of_nonneg (by omega), Int.toNat_of_nonneg r0]
    omega
  rw [← Int.pow_mul]
  have h3 : a.natAbs < 2 ^ (n.toNat * (((Builtin.Int.intBits a : Int) + n - 1) / n).toNat) := Nat.lt_of_lt_of_le h1 (Nat.pow_le_pow_right (by decide) h2)
  have h4 : (a.natAbs : Int) < ((2 ^ (n.toNat * (((Builtin.Int.intBits a : Int) + n - 1) / n).toNat) : Nat) : Int) := Int.ofNat_lt.mpr h3
  rw [Int.natCast_pow] at h4
  have h5 : (a.natAbs : Int) = a := by omega
  rw [h5] at h4
  exact h4
end Mine
namespace Mine
open PySem PyProof.Rows
theorem sh_eq {a c n sh : Int} (es : sh = (c - a) * n) (hac : a ≤ c) (hn : 0 ≤ n) : sh.toNat = n.toNat * (c - a).toNat := by
  have h1 : ((c - a).toNat : Int) = c - a := by omega
  have h2 : (n.toNat : Int) = n := by omega
  have h3 : sh = ((n.toNat * (c - a).toNat : Nat) : Int) := by
    rw [es, Int.natCast_mul, h1, h2, Int.mul_comm]
  omega
theorem bits_mono {x y : Int} (h0 : 0 ≤ x) (h : x ≤ y) {m : Nat} (hy : Builtin.Int.intBits y ≤ m) : Builtin.Int.intBits x ≤ m := intBits_le_of_natAbs (by omega) hy
theorem d4_up {x up a b c n sh : Int} (eu : up = x / 2 ^ sh.toNat) (es : sh = (c - a) * n) (hc : a + b = 2 * c ∨ a + b = 2 * c + 1) (hab : a < b) (hn : 0 ≤ n)
    (hx : 0 ≤ x ∧ x < (2 ^ n.toNat) ^ (b - a).toNat ∧ Builtin.Int.intBits x ≤ 2 ^ 20) : 0 ≤ up ∧ up < (2 ^ n.toNat) ^ (b - c).toNat ∧ Builtin.Int.intBits up ≤ 2 ^ 20 := by
  obtain ⟨h0, h1, h2⟩ := hx
  have hp : (0 : Int) < 2 ^ sh.toNat := Int.pow_pos (by decide)
  have u0 : 0 ≤ up := by rw [eu]; exact Int.ediv_nonneg h0 (Int.le_of_lt hp)
  refine ⟨u0, ?_, bits_mono u0 ?_ h2⟩
  · rw [eu]
    apply Int.ediv_lt_of_lt_mul hp
    rw [sh_eq es (by omega) hn, Int.pow_mul, ← Int.pow_add]
    have : (b - c).toNat + (c - a).toNat = (b - a).toNat := by omega
    rw [this]; exact h1
  · rw [eu]; exact Int.ediv_le_self _ h0
theorem d4_lo {x up t lo a b c n sh : Int} (el : lo = Builtin.bitXor x t) (et : t = up * 2 ^ sh.toNat) (eu : up = x / 2 ^ sh.toNat) (es : sh = (c - a) * n) (hc : a + b = 2 * c ∨ a + b = 2 * c + 1) (hab : a < b) (hn : 0 ≤ n)
    (hx : 0 ≤ x ∧ x < (2 ^ n.toNat) ^ (b - a).toNat ∧ Builtin.Int.intBits x ≤ 2 ^ 20) : 0 ≤ lo ∧ lo < (2 ^ n.toNat) ^ (c - a).toNat ∧ Builtin.Int.intBits lo ≤ 2 ^ 20 := by
  obtain ⟨h0, h1, h2⟩ := hx
  have hp : (0 : Int) < 2 ^ sh.toNat := Int.pow_pos (by decide)
  have e : lo = x % 2 ^ sh.toNat := by rw [el, et, eu, bitXor_top h0]
  have l0 : 0 ≤ lo := by rw [e]; exact Int.emod_nonneg _ (Int.ne_of_gt hp)
  refine ⟨l0, ?_, bits_mono l0 ?_ h2⟩
  · rw [e]
    have := Int.emod_lt_of_pos x hp
    rw [sh_eq es (by omega) hn, Int.pow_mul] at this ⊢
    exact this
  · rw [e]
    have z := Int.emod_add_mul_ediv x (2 ^ sh.toNat)
    have z2 := Int.mul_nonneg (Int.le_of_lt hp) (Int.ediv_nonneg h0 (Int.le_of_lt hp))
    omega
end Mine
namespace Mine
open PySem PyProof.Rows
theorem d4_node {x up t lo a b c n sh : Int} {ds : List Int} (el : lo = Builtin.bitXor x t) (et : t = up * 2 ^ sh.toNat) (eu : up = x / 2 ^ sh.toNat) (es : sh = (c - a) * n) (hc : a + b = 2 * c ∨ a + b = 2 * c + 1) (h0 : 0 ≤ a) (hab : a < b) (hb : b ≤ ds.length) (hn : 0 ≤ n)
    (hx : 0 ≤ x ∧ x < (2 ^ n.toNat) ^ (b - a).toNat ∧ Builtin.Int.intBits x ≤ 2 ^ 20) :
    spl (spl ds a (dg (2 ^ n.toNat) (c - a).toNat lo)) c (dg (2 ^ n.toNat) (b - c).toNat up) = spl ds a (dg (2 ^ n.toNat) (b - a).toNat x) := by
  have hX : (0 : Int) < 2 ^ n.toNat := Int.pow_pos (by decide)
  have e : lo = x % (2 ^ n.toNat) ^ (c - a).toNat := by rw [el, et, eu, bitXor_top hx.1, sh_eq es (by omega) hn, Int.pow_mul]
  have e' : up = x / (2 ^ n.toNat) ^ (c - a).toNat := by rw [eu, sh_eq es (by omega) hn, Int.pow_mul]
  rw [spl_spl h0 (by rw [dg_len]; omega) (by rw [dg_len, dg_len]; omega), e, e', ← dg_add hX]
  congr 2; omega
theorem d4_leaf {x a b n : Int} {ds : List Int} (h : a + 1 = b) (h0 : 0 ≤ a) (hb : b ≤ ds.length) (hx : 0 ≤ x ∧ x < (2 ^ n.toNat) ^ (b - a).toNat ∧ Builtin.Int.intBits x ≤ 2 ^ 20) :
    ds.set a.toNat x = spl ds a (dg (2 ^ n.toNat) (b - a).toNat x) := by
  subst h
  have e : (a + 1 - a).toNat = 1 := by omega
  rw [spl_one (by omega), e]
  rw [e] at hx
  have : x % 2 ^ n.toNat = x := Int.emod_eq_of_lt hx.1 (by have := hx.2.1; rw [Int.pow_one] at this; exact this)
  show _ = spl ds a [x % 2 ^ n.toNat]
  rw [this]
end Mine
namespace Mine
open PySem PyProof.Rows
theorem d4_pos {x n c : Int} (hne : x ≠ 0) (_h : 0 ≤ x) (hn : 0 < n) (e : c = ((Builtin.Int.intBits x : Int) + n - 1) / n) : 0 < ((List.replicate c.toNat (0 : Int)).length : Int) := by
  have hb : 1 ≤ Builtin.Int.intBits x := by
    unfold Builtin.Int.intBits
    have : (x == 0) = false := by simpa using hne
    rw [this]; simp
  have : 1 ≤ c := by rw [e]; exact (Int.le_ediv_iff_mul_le hn).mpr (by omega)
  rw [List.length_replicate]; omega
theorem d4_pre0 {x n c : Int} (h : 0 ≤ x) (hn : 0 < n) (hb : Builtin.Int.intBits x ≤ 2 ^ 13) (e : c = ((Builtin.Int.intBits x : Int) + n - 1) / n) :
    0 ≤ x ∧ x < (2 ^ n.toNat) ^ (((List.replicate c.toNat (0 : Int)).length : Int) - 0).toNat ∧ Builtin.Int.intBits x ≤ 2 ^ 20 := by
  refine ⟨h, ?_, by omega⟩
  have q := ndig h hn
  rw [← e] at q
  rw [List.length_replicate]
  have : ((c.toNat : Int) - 0).toNat = c.toNat := by omega
  rw [this]; exact q
theorem d4_end {x n c : Int} {vs : List Value} (e : c = ((Builtin.Int.intBits x : Int) + n - 1) / n)
    (hi : IntsAre vs (spl (List.replicate c.toNat (0 : Int)) 0 (dg (2 ^ n.toNat) (((List.replicate c.toNat (0 : Int)).length : Int) - 0).toNat x))) :
    IntsAre vs (dg (2 ^ n.toNat) (((Builtin.Int.intBits x : Int) + n - 1) / n).toNat x) := by
  rw [← e]
  have q : (((List.replicate c.toNat (0 : Int)).length : Int) - 0).toNat = c.toNat := by rw [List.length_replicate]; omega
  rw [q, spl_all (by rw [dg_len, List.length_replicate])] at hi
  exact hi
theorem d4_end0 {x n c : Int} {vs : List Value} (hx : x = 0) (hn : 0 < n) (e : c = ((Builtin.Int.intBits x : Int) + n - 1) / n) (hi : IntsAre vs (List.replicate c.toNat (0 : Int))) :
    IntsAre vs (dg (2 ^ n.toNat) (((Builtin.Int.intBits x : Int) + n - 1) / n).toNat x) := by
  subst hx
  have : c = 0 := by
    rw [e]; apply Int.ediv_eq_zero_of_lt
    · show 0 ≤ ((Builtin.Int.intBits 0 : Nat) : Int) + n - 1
      omega
    · show ((0 : Nat) : Int) + n - 1 < n
      omega
  rw [← e, this]
  rw [this] at hi
  exact hi
theorem d4_shl {x up a b c n sh : Int} (eu : up = x / 2 ^ sh.toNat) (es : sh = (c - a) * n) (hc : a + b = 2 * c ∨ a + b = 2 * c + 1) (h0 : 0 ≤ a) (hab : a < b) (hb : b ≤ 64) (hn : 0 ≤ n) (hn2 : n ≤ 2 ^ 13)
    (hx : 0 ≤ x ∧ x < (2 ^ n.toNat) ^ (b - a).toNat ∧ Builtin.Int.intBits x ≤ 2 ^ 20) : (Builtin.Int.intBits up : Int) + sh ≤ 2 ^ 27 := by
  have h1 := (d4_up eu es hc hab hn hx).2.2
  have h2 := sh_le es hc h0 hab hb hn hn2
  omega
end Mine
namespace Mine
theorem spl_dg_len {ds : List Int} {a c X lo : Int} (h0 : 0 ≤ a) (h1 : a ≤ c) (h2 : c ≤ ds.length) : (spl ds a (dg X (c - a).toNat lo)).length = ds.length := by
  apply spl_len; rw [dg_len]; omega
end Mine
end

section
open PySem PySem.W PySem.Spec PySem.Calls PyProof.Rows
set_option maxRecDepth 100000
set_option maxHeartbeats 0
namespace Mine
section
variable {prog : Program} {w : World} {p : Program} {loose : List Str} {mean : ExcName → Option Value} {mg mb : Str → Option Value}

/-- what `inner(a, b)` of _digits2int does -/
noncomputable def D2Inner (prog : Program) (w : World) (p : Program) (loose : List Str) (mean : ExcName → Option Value) (mg mb : Str → Option Value) (f l c' c1 c2 c3 : Nat)
  (name qual : Str) (params : Arguments) (body : List Stmt) (scope : Scope) (x1 x2 x3 : Str) (doc pm ctv : Value)
  (vs : List Value) (e : Nat) (ds : List Int) (n : Int) (k : Nat) : Prop :=
  ∀ (oc o1 o2 o3 : Obj) (cvs : Array Value) (tq tn : Tok) (a b : Int) (ta tb : Tok), oc.data = .fields cvs → cvs[1]? = some (.str qual tq) → o1.data = .cell (some (.int n tn)) → o2.data = .cell (some (.ref f)) → o3.data = .cell (some (.ref l)) →
    0 ≤ a → a < b → b ≤ ds.length → b - a ≤ k →
  ∀ (dp un : Nat) (gd : Option (List Code)) (cn : Str) (cs : Scope) (ad : Addr) (ccd : Value) (cl : List (Str × Addr)) (outer : List Env) (A₀ : Around) (base h₀ : Heap) (L : Addr) (m : Str → Option Value) (news : List (Addr × Obj)) (s : Shared) (Q E : Value → Shared → Prop),
    Below A₀ base outer h₀ → Fr h₀ L s.heap m → (hd.heap_39 w.params).In h₀ → News h₀ L s.heap news → Top p loose mean mg mb h₀ → CodeHd base 41 37 → cs.kind = .function →
    (f, fnMade name qual params body scope [(x1, c1), (x2, c2), (x3, c3)] doc pm c' ctv) ∈ news → (c', oc) ∈ news → (c1, o1) ∈ news → (c2, o2) ∈ news → (c3, o3) ∈ news → (l, PySem.W.listOf vs.toArray e) ∈ news →
    dp + k < recursionLimit → un + 8 * k < cLine →
    (∀ v t h' tk', Fr h₀ L h' m → News h₀ L h' news → v = ev (2 ^ n.toNat) (seg ds a b) → Q (.int v t) { s with heap := h', toks := tk' }) →
    wpAny (model prog w) (ktrTop dp un gd cn cs L ad ccd cl outer) (call (.ref f) [.int a ta, .int b tb]) Q E s

theorem d2_use {f l c' c1 c2 c3 : Nat} {name qual : Str} {params : Arguments} {body : List Stmt} {scope : Scope} {x1 x2 x3 : Str} {doc pm ctv : Value} {oc o1 o2 o3 : Obj} {cvs : Array Value} {tq tn : Tok}
  {vs : List Value} {e : Nat} {ds : List Int} {n : Int} {a b : Int} {ta tb : Tok} {dp un : Nat} {gd : Option (List Code)} {cn : Str} {cs : Scope} {ad : Addr} {ccd : Value} {cl : List (Str × Addr)} {outer : List Env} {A₀ : Around} {base h₀ : Heap} {L : Addr} {m : Str → Option Value} {news : List (Addr × Obj)} {s : Shared} {Q E : Value → Shared → Prop} {k : Nat}
  (B : Below A₀ base outer h₀) (F : Fr h₀ L s.heap m) (X : (hd.heap_39 w.params).In h₀) (N : News h₀ L s.heap news)
  (m1 : (f, fnMade name qual params body scope [(x1, c1), (x2, c2), (x3, c3)] doc pm c' ctv) ∈ news) (T : Top p loose mean mg mb h₀) (C : CodeHd base 41 37) (hk : cs.kind = .function)
  (m2 : (c', oc) ∈ news) (m3 : (c1, o1) ∈ news) (m4 : (c2, o2) ∈ news) (m5 : (c3, o3) ∈ news)
  (dc : oc.data = .fields cvs) (dv : cvs[1]? = some (.str qual tq)) (d1 : o1.data = .cell (some (.int n tn))) (d2 : o2.data = .cell (some (.ref f))) (d3 : o3.data = .cell (some (.ref l)))
  (m6 : (l, PySem.W.listOf vs.toArray e) ∈ news) (hi : IntsAre vs ds)
  (claim : D2Inner prog w p loose mean mg mb f l c' c1 c2 c3 name qual params body scope x1 x2 x3 doc pm ctv vs e ds n k)
  (h0 : 0 ≤ a) (h1 : a < b) (h2 : b ≤ ds.length) (h3 : b - a ≤ k) (hd : dp + k < recursionLimit) (hu : un + 8 * k < cLine)
  (ret : ∀ v t h' tk', Fr h₀ L h' m → News h₀ L h' news → v = ev (2 ^ n.toNat) (seg ds a b) → Q (.int v t) { s with heap := h', toks := tk' }) :
  wpAny (model prog w) (ktrTop dp un gd cn cs L ad ccd cl outer) (call (.ref f) [.int a ta, .int b tb]) Q E s :=
  claim oc o1 o2 o3 cvs tq tn a b ta tb dc dv d1 d2 d3 h0 h1 h2 h3 dp un gd cn cs ad ccd cl outer A₀ base h₀ L m news s Q E B F X N T C hk m1 m2 m3 m4 m5 m6 hd hu ret
theorem d2_use0 {f l c' c1 c2 c3 : Nat} {name qual : Str} {params : Arguments} {body : List Stmt} {scope : Scope} {x1 x2 x3 : Str} {doc pm ctv : Value} {oc o1 o2 o3 : Obj} {cvs : Array Value} {tq tn : Tok}
  {vs : List Value} {e : Nat} {ds : List Int} {n : Int} {a b : Int} {ta tb : Tok} {dp un : Nat} {gd : Option (List Code)} {cn : Str} {cs : Scope} {ad : Addr} {ccd : Value} {cl : List (Str × Addr)} {outer : List Env} {A₀ : Around} {base h₀ : Heap} {L : Addr} {m : Str → Option Value} {news : List (Addr × Obj)} {s : Shared} {Q E : Value → Shared → Prop}
  (_mk : Mark) (B : Below A₀ base outer h₀) (F : Fr h₀ L s.heap m) (X : (hd.heap_39 w.params).In h₀) (N : News h₀ L s.heap news)
  (m1 : (f, fnMade name qual params body scope [(x1, c1), (x2, c2), (x3, c3)] doc pm c' ctv) ∈ news) (T : Top p loose mean mg mb h₀) (C : CodeHd base 41 37) (hk : cs.kind = .function)
  (m2 : (c', oc) ∈ news) (m3 : (c1, o1) ∈ news) (m4 : (c2, o2) ∈ news) (m5 : (c3, o3) ∈ news)
  (dc : oc.data = .fields cvs) (dv : cvs[1]? = some (.str qual tq)) (d1 : o1.data = .cell (some (.int n tn))) (d2 : o2.data = .cell (some (.ref f))) (d3 : o3.data = .cell (some (.ref l)))
  (m6 : (l, PySem.W.listOf vs.toArray e) ∈ news) (hi : IntsAre vs ds)
  (claim : D2Inner prog w p loose mean mg mb f l c' c1 c2 c3 name qual params body scope x1 x2 x3 doc pm ctv vs e ds n ds.length)
  (h0 : 0 ≤ a) (h1 : a < b) (h2 : b ≤ ds.length) (h3 : b - a ≤ ds.length) (hd : dp + ds.length < recursionLimit) (hu : un + 8 * ds.length < cLine)
  (ret : ∀ v t h' tk', Fr h₀ L h' m → News h₀ L h' news → v = ev (2 ^ n.toNat) (seg ds a b) → Q (.int v t) { s with heap := h', toks := tk' }) :
  wpAny (model prog w) (ktrTop dp un gd cn cs L ad ccd cl outer) (call (.ref f) [.int a ta, .int b tb]) Q E s :=
  claim oc o1 o2 o3 cvs tq tn a b ta tb dc dv d1 d2 d3 h0 h1 h2 h3 dp un gd cn cs ad ccd cl outer A₀ base h₀ L m news s Q E B F X N T C hk m1 m2 m3 m4 m5 m6 hd hu ret

theorem d2_ind {f l c' c1 c2 c3 : Nat} {name qual : Str} {params : Arguments} {body : List Stmt} {scope : Scope} {x1 x2 x3 : Str} {doc pm ctv : Value}
  {vs : List Value} {e : Nat} {ds : List Int} {n : Int}
  (hs : ∀ k, D2Inner prog w p loose mean mg mb f l c' c1 c2 c3 name qual params body scope x1 x2 x3 doc pm ctv vs e ds n k → D2Inner prog w p loose mean mg mb f l c' c1 c2 c3 name qual params body scope x1 x2 x3 doc pm ctv vs e ds n (k + 1)) (k : Nat) :
  D2Inner prog w p loose mean mg mb f l c' c1 c2 c3 name qual params body scope x1 x2 x3 doc pm ctv vs e ds n k := by
  induction k with
  | zero => intro oc o1 o2 o3 cvs tq tn a b ta tb _ _ _ _ _ h0 h1 h2 h3; omega
  | succ k ih => exact hs k ih
end

local macro_rules | `(tactic| k_room) => `(tactic| ktr_room)

local macro_rules | `(tactic| k_all) => `(tactic| first | with_reducible assumption | exact ne_of_l1 (by assumption) (by omega))
local macro_rules | `(tactic| ktn_ord) => `(tactic| first | exact Pick.here | (refine' Pick.there ?a; (case a => ktn_ord)))

local macro_rules | `(tactic| k_mem) => `(tactic| assumption)
local macro_rules | `(tactic| ktr_rel) => `(tactic| (intro q hq; repeat (first | exact hq | refine List.Mem.tail _ ?_)))
local macro_rules | `(tactic| walk_at $s:str) => `(tactic| k_extra $s)
theorem d2i_spec {prog : Program} {w : World} {p : Program} {loose : List Str} {mean : ExcName → Option Value} {mg mb : Str → Option Value}
 (dp un : Nat) (gd : Option (List Code)) (cn : Str) (cs : Scope) (a : Addr) (ccd : Value) (cl : List (Str × Addr)) (outer : List Env) (A₀ : Around) (base h₀ : Heap) (L : Addr) (m : Str → Option Value) (s : Shared) (Q E : Value → Shared → Prop)
 (B : Below A₀ base outer h₀) (F : Fr h₀ L s.heap m) (KX : (hd.heap_39 w.params).In h₀) (T : Top p loose mean mg mb h₀) (hk : cs.kind = .function) (C41 : CodeHd base 41 37)
 (p37 p30 : Array Value) (rest : List (Addr × Obj)) (N : News h₀ L s.heap ((37, tabObj p37) :: (30, tabObj p30) :: rest)) (r37 : ∀ q ∈ rest, q.1 ≠ 37)
 (S : TabSt 47 4 (Str.ofString "_digits2int.<locals>.inner") rest p37)
 (l : Nat) (vs : List Value) (e : Nat) (ds : List Int) (n : Int) (tn : Tok) (hl : (l, PySem.W.listOf vs.toArray e) ∈ rest)
 (hn : 0 ≤ n) (hn2 : n ≤ 2 ^ 20) (hi : IntsAre vs ds) (hlen : ds.length < 64) (hbits : ∀ a b : Int, 0 ≤ a → a < b → b ≤ ds.length → intBits (ev (2 ^ n.toNat) (seg ds a b)) ≤ 2 ^ 20)
 (hdp : dp + 100 < recursionLimit) (hu : un + 800 < cLine)
 (hQ : ∀ (v : Int) (t : Tok) (h' : Heap) (tk' : Nat) (c' : Nat) (oc : Obj) (cvs : Array Value) (tq : Tok), Fr h₀ L h' m → News h₀ L h' ((c', oc) :: (37, tabObj #[rawInt 47, rawInt 4, .ref c']) :: (30, tabObj p30) :: rest) →
   oc.data = .fields cvs → cvs[1]? = some (.str (Str.ofString "_digits2int.<locals>.inner") tq) → c' ≠ 37 → c' ≠ 30 → v = ev (2 ^ n.toNat) ds → Q (.int v t) { s with heap := h', toks := tk' })  :
 wpAny (model prog w) (ktrTop dp un gd cn cs L a ccd cl outer) (call (.ref 42) [.ref l, .int n tn]) Q E s := by
  have kf : PySem.Challenge.rw_wn0139_01.Holds → Mine.hd.heap_39 = Mine.hd.heap_39 := (by k_fill; exact fun _ => rfl)
  clear kf
  obtain ⟨ck, cnm, c3, c4, c5⟩ := cs
  dsimp only at hk
  subst hk
  have hM := mark
  k_with_none
  k_with "call ref" => first | (k_here; k_dflt (refine' d2_use (by k_asm) (by k_asm) (by k_asm) (by k_asm) (by k_mem) (by k_asm) (by kn_code) (by exact rfl) (by k_mem) (by k_mem) (by k_mem) (by k_mem) (by k_asm) (by k_asm) (by k_asm) (by k_asm) (by k_asm) (by k_mem) (by k_asm) (by assumption) (by omega) (by omega) (by omega) (by omega) (by ktr_room) (by ktr_units) ?_); intro v9 t9 h9 tk9 F9 N9 e9; (try dsimp only); (try k_fold)) | (k_here; k_dflt (refine' d2_use0 (by assumption) ?B ?F ?X ?N ?m1 ?T ?C ?hk ?m2 ?m3 ?m4 ?m5 ?dc ?dv ?d1 ?d2 ?d3 ?m6 ?hi ?claimO ?h0 ?h1 ?h2 ?h3 ?hd ?hu ?_; (case B => k_asm); (case F => k_asm); (case X => k_asm); (case N => k_asm); (case m1 => k_mem); (case T => k_asm); (case C => kn_code); (case hk => exact rfl); (case m2 => k_mem); (case m3 => k_mem); (case m4 => k_mem); (case m5 => k_mem); (case dc => k_asm); (case dv => k_asm); (case d1 => k_asm); (case d2 => k_asm); (case d3 => k_asm); (case m6 => k_mem); (case hi => k_asm); (case h0 => omega); (case h1 => omega); (case h2 => omega); (case h3 => omega); (case hd => ktr_room); (case hu => ktr_units); (case claimO => k_extra "claim")); intro v9 t9 h9 tk9 F9 N9 e9; (try dsimp only); (try k_fold)) | (refine Stop.on ?_)
  k_with "binaryOp RShift int int" => (k_here; refine shr1_op ?_; intro _ _ _)
  k_with "binaryOp Mult int int" => (k_here; refine mul_op (by k_extra "mul") ?_; intro _ _ _)
  k_with "binaryOp LShift int int" => (k_here; refine shl_op (by k_extra "shl0") (by k_extra "shl1") ?_; intro _ _ _)
  k_with "exec FunctionDef" => (k_here; k_dflt (refine' def_any (by k_asm) (by k_asm) (by ktn_ord) (by k_asm) (by kn_code) (by exact rfl) (by k_updF) (by k_ne) (by k_all) (by k_asm) (by exact rfl) (by exact ⟨_, by k_mem⟩) (by exact ⟨_, by k_mem⟩) (by k_extra "tabst") (by exact rfl) (by exact rfl) (by exact rfl) (by exact rfl) ?_ (by exact rfl) (by exact rfl)); intro _ _ _ _ _ _ _ _ _ _ _ N9 _ _ _ l9 _ _; (try dsimp only at N9); (try k_lt l9); (try (revert l9; intro _)))
  k_with "truthy ref" => (k_here; k_dflt (refine' truthy_op (by k_asm) (by k_mem) (by k_asm) (by omega) ?_))
  k_with "call builtin:len" => (k_here; k_dflt (refine' len_op (by k_asm) (by k_mem) (by k_asm) (by omega) ?_))
  k_with "subscriptTail" => (k_here; (with_reducible show wpAny _ _ (subscriptTail _ _ (Value.ref _) (Value.int _ _)) _ _ _); k_dflt (refine' item_op (by k_asm) (by k_mem) (by k_asm) (by omega) (by omega) (by omega) ?_ (by with_unfolding_all rfl)); intro _ _ _)
  k_with "mul" => exact IntMulOk.of_left (intBits_le_64 (by omega) (by omega))
  k_with "shl0" => exact sh_nonneg (by assumption) (by assumption) (by assumption) (by assumption)
  k_with "shl1" => exact d2_shl hbits (by assumption) (by assumption) (by assumption) (by assumption) (by assumption) (by assumption) (by assumption) (by assumption) (by assumption) (by assumption)
  k_with "tabst" => exact TabSt.up S (by ktr_rel)
  k_with "claim" =>
    clear hM
    refine d2_ind ?_ _
    intro k IH
    unfold D2Inner
    intro oc o1 o2 o3 cvs tq tn a b ta tb dc dv d1 d2 d3 h0 h1 h2 h3 dp un gd cn cs ad ccd cl outer A₀ base h₀ L m news s Q E B F X N T C hk m1 m2 m3 m4 m5 m6 hd hu ret
    obtain ⟨ck, cnm, c3, c4, c5⟩ := cs
    dsimp only at hk
    subst hk
    refine wpAny_call ?_
    k_dflt kn_enter
    k_steps
    all_goals first
      | exact ret _ _ _ _ (by k_asm) (by k_asm) ((by assumption : _ = _).trans (d2_leaf (by assumption) (by assumption) (by assumption)))
      | (subst_vars; exact ret _ _ _ _ (by k_asm) (by k_asm) (d2_node (by assumption) (by assumption) (by assumption) (by assumption) (by assumption) rfl rfl rfl))
  w_strict (refine wpAny_call ?_; k_dflt k_enter; k_steps)
  all_goals (
    refine' hQ _ _ _ _ _ _ _ _ ?F ?N ?dc ?dv ?n1 ?n2 ?e
    (case dc => assumption)
    (case dv => assumption)
    (case F => k_asm)
    (case N => exact news_sub (by k_asm) (List.forall_mem_cons.mpr ⟨by k_mem, List.forall_mem_cons.mpr ⟨by k_mem, List.forall_mem_cons.mpr ⟨by k_mem, by ktr_rel⟩⟩⟩))
    (case n1 => assumption)
    (case n2 => assumption)
    (case e => first
      | exact (by assumption : _ = _).trans (by rw [seg_all])
      | (have hz : ds = [] := List.eq_nil_of_length_eq_zero (by omega)
         subst hz; rfl)))
end Mine
end

section
open PySem PySem.W PySem.Spec PySem.Calls PyProof.Rows
set_option maxRecDepth 100000
set_option maxHeartbeats 0
namespace Mine
section
variable {prog : Program} {w : World} {p : Program} {loose : List Str} {mean : ExcName → Option Value} {mg mb : Str → Option Value}

/-- what `inner(x, a, b)` of _int2digits does -/
noncomputable def D4Inner (prog : Program) (w : World) (p : Program) (loose : List Str) (mean : ExcName → Option Value) (mg mb : Str → Option Value) (f l c' c1 c2 c3 : Nat)
  (name qual : Str) (params : Arguments) (body : List Stmt) (scope : Scope) (x1 x2 x3 : Str) (doc pm ctv : Value)
  (e : Nat) (n : Int) (k : Nat) : Prop :=
  ∀ (oc o1 o2 o3 : Obj) (cvs : Array Value) (tq tn : Tok) (x a b : Int) (tx ta tb : Tok) (vs : List Value) (ds : List Int) (rest : List (Addr × Obj)), oc.data = .fields cvs → cvs[1]? = some (.str qual tq) → o1.data = .cell (some (.int n tn)) → o2.data = .cell (some (.ref f)) → o3.data = .cell (some (.ref l)) →
    IntsAre vs ds → 0 ≤ a → a < b → b ≤ ds.length → ds.length < 64 → b - a ≤ k → (0 ≤ x ∧ x < (2 ^ n.toNat) ^ (b - a).toNat ∧ Builtin.Int.intBits x ≤ 2 ^ 20) →
  ∀ (dp un : Nat) (gd : Option (List Code)) (cn : Str) (cs : Scope) (ad : Addr) (ccd : Value) (cl : List (Str × Addr)) (outer : List Env) (A₀ : Around) (base h₀ : Heap) (L : Addr) (m : Str → Option Value) (s : Shared) (Q E : Value → Shared → Prop),
    Below A₀ base outer h₀ → Fr h₀ L s.heap m → (hd.heap_39 w.params).In h₀ → News h₀ L s.heap ((l, PySem.W.listOf vs.toArray e) :: rest) → (∀ q ∈ rest, q.1 ≠ l) → Top p loose mean mg mb h₀ → CodeHd base 34 30 → cs.kind = .function →
    (f, fnMade name qual params body scope [(x1, c1), (x2, c2), (x3, c3)] doc pm c' ctv) ∈ rest → (c', oc) ∈ rest → (c1, o1) ∈ rest → (c2, o2) ∈ rest → (c3, o3) ∈ rest →
    dp + k < recursionLimit → un + 8 * k < cLine →
    (∀ vs' h' tk', Fr h₀ L h' m → News h₀ L h' ((l, PySem.W.listOf vs'.toArray e) :: rest) → IntsAre vs' (spl ds a (dg (2 ^ n.toNat) (b - a).toNat x)) → Q .none { s with heap := h', toks := tk' }) →
    wpAny (model prog w) (ktrTop dp un gd cn cs L ad ccd cl outer) (call (.ref f) [.int x tx, .int a ta, .int b tb]) Q E s

theorem d4_use {f l c' c1 c2 c3 : Nat} {name qual : Str} {params : Arguments} {body : List Stmt} {scope : Scope} {x1 x2 x3 : Str} {doc pm ctv : Value} {oc o1 o2 o3 : Obj} {cvs : Array Value} {tq tn : Tok} {rest news : List (Addr × Obj)}
  {vs : List Value} {e : Nat} {ds : List Int} {n : Int} {x a b : Int} {tx ta tb : Tok} {dp un : Nat} {gd : Option (List Code)} {cn : Str} {cs : Scope} {ad : Addr} {ccd : Value} {cl : List (Str × Addr)} {outer : List Env} {A₀ : Around} {base h₀ : Heap} {L : Addr} {m : Str → Option Value} {s : Shared} {Q E : Value → Shared → Prop} {k : Nat}
  (B : Below A₀ base outer h₀) (F : Fr h₀ L s.heap m) (X : (hd.heap_39 w.params).In h₀) (N : News h₀ L s.heap news)
  (m1 : (f, fnMade name qual params body scope [(x1, c1), (x2, c2), (x3, c3)] doc pm c' ctv) ∈ news) (T : Top p loose mean mg mb h₀) (C : CodeHd base 34 30) (hk : cs.kind = .function)
  (m3 : (c1, o1) ∈ news) (m4 : (c2, o2) ∈ news) (m5 : (c3, o3) ∈ news)
  (d1 : o1.data = .cell (some (.int n tn))) (d2 : o2.data = .cell (some (.ref f))) (d3 : o3.data = .cell (some (.ref l)))
  (pk : Pick l (PySem.W.listOf vs.toArray e) news rest) (hne : ∀ q ∈ rest, q.1 ≠ l)
  (m1' : (f, fnMade name qual params body scope [(x1, c1), (x2, c2), (x3, c3)] doc pm c' ctv) ∈ rest) (m2 : (c', oc) ∈ rest) (m3' : (c1, o1) ∈ rest) (m4' : (c2, o2) ∈ rest) (m5' : (c3, o3) ∈ rest)
  (dc : oc.data = .fields cvs) (dv : cvs[1]? = some (.str qual tq)) (hi : IntsAre vs ds) (hlen : ds.length < 64)
  (claim : D4Inner prog w p loose mean mg mb f l c' c1 c2 c3 name qual params body scope x1 x2 x3 doc pm ctv e n k)
  (h0 : 0 ≤ a) (h1 : a < b) (h2 : b ≤ ds.length) (h3 : b - a ≤ k) (hx : 0 ≤ x ∧ x < (2 ^ n.toNat) ^ (b - a).toNat ∧ Builtin.Int.intBits x ≤ 2 ^ 20) (hd : dp + k < recursionLimit) (hu : un + 8 * k < cLine)
  (ret : ∀ vs' h' tk', Fr h₀ L h' m → News h₀ L h' ((l, PySem.W.listOf vs'.toArray e) :: rest) → IntsAre vs' (spl ds a (dg (2 ^ n.toNat) (b - a).toNat x)) → Q .none { s with heap := h', toks := tk' }) :
  wpAny (model prog w) (ktrTop dp un gd cn cs L ad ccd cl outer) (call (.ref f) [.int x tx, .int a ta, .int b tb]) Q E s :=
  claim oc o1 o2 o3 cvs tq tn x a b tx ta tb vs ds rest dc dv d1 d2 d3 hi h0 h1 h2 hlen h3 hx dp un gd cn cs ad ccd cl outer A₀ base h₀ L m s Q E B F X (news_sub N pk.sub) hne T C hk m1' m2 m3' m4' m5' hd hu ret

theorem d4_ind {f l c' c1 c2 c3 : Nat} {name qual : Str} {params : Arguments} {body : List Stmt} {scope : Scope} {x1 x2 x3 : Str} {doc pm ctv : Value}
  {e : Nat} {n : Int}
  (hs : ∀ k, D4Inner prog w p loose mean mg mb f l c' c1 c2 c3 name qual params body scope x1 x2 x3 doc pm ctv e n k → D4Inner prog w p loose mean mg mb f l c' c1 c2 c3 name qual params body scope x1 x2 x3 doc pm ctv e n (k + 1)) (k : Nat) :
  D4Inner prog w p loose mean mg mb f l c' c1 c2 c3 name qual params body scope x1 x2 x3 doc pm ctv e n k := by
  induction k with
  | zero => intro oc o1 o2 o3 cvs tq tn x a b tx ta tb vs ds rest _ _ _ _ _ _ h0 h1 h2 _ h3; omega
  | succ k ih => exact hs k ih
theorem d4_use0 (k : Nat) (_mk : Mark) {P : Nat → Prop} (h : P k) : P k := h
end

local macro_rules | `(tactic| k_room) => `(tactic| ktr_room)
local macro_rules | `(tactic| ktn_ord) => `(tactic| first | exact Pick.here | (refine' Pick.there ?a; (case a => ktn_ord)))
local macro_rules | `(tactic| k_ne) => `(tactic| (refine neN ?_; (try dsimp only); first | omega | exact ne_code (by k_asm) (by k_mem) (by assumption) (by k_mem)))
local macro_rules | `(tactic| k_all) => `(tactic| first | with_reducible assumption | exact ne_of_l1 (by assumption) (by omega))
local macro_rules | `(tactic| k_mem) => `(tactic| assumption)
local macro_rules | `(tactic| ktr_rel) => `(tactic| (intro q hq; repeat (first | exact hq | refine List.Mem.tail _ ?_)))
local macro_rules | `(tactic| walk_at $s:str) => `(tactic| k_extra $s)

theorem i2d_spec {prog : Program} {w : World} {p : Program} {loose : List Str} {mean : ExcName → Option Value} {mg mb : Str → Option Value}
 (dp un : Nat) (gd : Option (List Code)) (cn : Str) (cs : Scope) (a : Addr) (ccd : Value) (cl : List (Str × Addr)) (outer : List Env) (A₀ : Around) (base h₀ : Heap) (L : Addr) (m : Str → Option Value) (s : Shared) (Q E : Value → Shared → Prop)
 (B : Below A₀ base outer h₀) (F : Fr h₀ L s.heap m) (KX : (hd.heap_39 w.params).In h₀) (T : Top p loose mean mg mb h₀) (hk : cs.kind = .function) (C34 : CodeHd base 34 30)
 (p37 p30 : Array Value) (rest : List (Addr × Obj)) (N : News h₀ L s.heap ((37, tabObj p37) :: (30, tabObj p30) :: rest)) (r30 : ∀ q ∈ rest, q.1 ≠ 30)
 (S : TabSt 32 4 (Str.ofString "_int2digits.<locals>.inner") rest p30)
 (x n : Int) (tx tn : Tok) (hx : 0 ≤ x) (hn : 0 < n) (hn2 : n ≤ 2 ^ 13) (hbx : Builtin.Int.intBits x ≤ 2 ^ 13) (hD : ((Builtin.Int.intBits x : Int) + n - 1) / n < 64)
 (hdp : dp + 100 < recursionLimit) (hu : un + 800 < cLine)
 (hQ : ∀ (l : Nat) (vs : List Value) (e : Nat) (h' : Heap) (tk' : Nat) (c' : Nat) (oc : Obj) (cvs : Array Value) (tq : Tok), Fr h₀ L h' m → News h₀ L h' ((l, PySem.W.listOf vs.toArray e) :: (c', oc) :: (37, tabObj p37) :: (30, tabObj #[rawInt 32, rawInt 4, .ref c']) :: rest) →
   oc.data = .fields cvs → cvs[1]? = some (.str (Str.ofString "_int2digits.<locals>.inner") tq) → c' ≠ 37 → c' ≠ 30 → (∀ q ∈ rest, q.1 < l) → 37 < l → 30 < l → c' ≠ l → IntsAre vs (dg (2 ^ n.toNat) (((Builtin.Int.intBits x : Int) + n - 1) / n).toNat x) → Q (.ref l) { s with heap := h', toks := tk' })  :
 wpAny (model prog w) (ktrTop dp un gd cn cs L a ccd cl outer) (call (.ref 35) [.int x tx, .int n tn]) Q E s := by
  have kf : PySem.Challenge.rw_wn0139_01.Holds → Mine.hd.heap_39 = Mine.hd.heap_39 := (by k_fill; exact fun _ => rfl)
  clear kf
  obtain ⟨ck, cnm, c3, c4, c5⟩ := cs
  dsimp only at hk
  subst hk
  have hM := mark
  k_with_none
  k_with "call ref" => first | (k_here; k_dflt (refine' d4_use (by k_asm) (by k_asm) (by k_asm) (by k_asm) (by k_mem) (by k_asm) (by kn_code) (by exact rfl) (by k_mem) (by k_mem) (by k_mem) (by k_asm) (by k_asm) (by k_asm) (by ktn_ord) (by k_all) (by k_mem) (by k_mem) (by k_mem) (by k_mem) (by k_mem) (by k_asm) (by k_asm) (by k_extra "ints") (by k_extra "len") ?claim ?h0 ?h1 ?h2 ?h3 ?hx ?hd ?hu ?_; (try (case claim => assumption)); (case h0 => k_extra "h0"); (case h1 => k_extra "h1"); (case h2 => k_extra "h2"); (case hx => k_extra "pre"); (case h3 => k_extra "h3"); (case hd => k_extra "room"); (case hu => k_extra "units"); (try (case claim => k_extra "claim"))); intro _ _ _ _ _ _; (try dsimp only); (try k_fold)) | (refine Stop.on ?_)
  k_with "binaryOp RShift int int" => (k_here; refine shr_op (by k_extra "shl0") ?_; intro _ _ _)
  k_with "binaryOp RShift int int" => (k_here; refine shr1_op ?_; intro _ _ _)
  k_with "binaryOp Mult int int" => (k_here; refine mul_op (by k_extra "mul") ?_; intro _ _ _)
  k_with "binaryOp LShift int int" => (k_here; refine shl_op (by k_extra "shl0") (by k_extra "shl1") ?_; intro _ _ _)
  k_with "binaryOp BitXor int int" => (k_here; refine xor_op ?_; intro _ _ _)
  k_with "exec FunctionDef" => (k_here; k_dflt (refine' def_any (by k_asm) (by k_asm) (by ktn_ord) (by k_asm) (by kn_code) (by exact rfl) (by k_updF) (by k_ne) (by k_all) (by k_asm) rfl (by exact ⟨_, by k_mem⟩) (by exact ⟨_, by k_mem⟩) (by k_extra "tabst") (by exact rfl) (by exact rfl) (by exact rfl) (by exact rfl) ?_ (by exact rfl) (by exact rfl)); intro _ _ _ _ _ _ _ _ _ _ _ N9 _ _ _ l9 _ _; (try dsimp only at N9); (try k_lt l9); (try (revert l9; intro _)))
  k_with "call builtin:len" => (k_here; k_dflt (refine' len_op (by k_asm) (by k_mem) (by k_extra "ints") (by k_extra "len") ?_))
  k_with "binaryOp FloorDiv int int" => (k_here; refine fdiv_op (by assumption) (by omega) ?_; intro _ _ _)
  k_with "binaryOp Mult ref int" => (k_here; k_dflt (refine' rep_op (by k_asm) (by k_asm) (by k_mem) (by k_extra "rep0") (by k_extra "rep1") ?_); intro _ _ _ _ _ g9 _; (try k_lt g9); (try (revert g9; intro _)))
  have hD0 : 0 ≤ ((Builtin.Int.intBits x : Int) + n - 1) / n := Int.ediv_nonneg (by omega) (by omega)
  k_with "rep0" => omega
  k_with "rep1" => omega
  k_with "len" => first | (simp only [List.length_replicate]; omega) | assumption | (rw [spl_dg_len] <;> omega)
  k_with "ints" => assumption
  k_with "tabst" => exact TabSt.up S (by ktr_rel)
  k_with "h0" => omega
  k_with "h1" => first | exact d4_pos (by assumption) hx hn (by assumption) | omega
  k_with "h2" => first | exact Int.le_refl _ | omega | (rw [spl_dg_len] <;> omega)
  k_with "h3" => first | exact Int.le_of_eq (Int.sub_zero _) | omega
  k_with "pre" => first
    | exact d4_pre0 hx hn hbx (by assumption)
    | exact d4_lo (by assumption) (by assumption) (by assumption) (by assumption) (by assumption) (by assumption) (Int.le_of_lt hn) (by assumption)
    | exact d4_up (by assumption) (by assumption) (by assumption) (by assumption) (Int.le_of_lt hn) (by assumption)
  k_with "room" => first | ktr_room | ((try simp only [List.length_replicate]); ktr_room)
  k_with "units" => first | ktr_units | ((try simp only [List.length_replicate]); ktr_units)
  k_with "mul" => exact IntMulOk.of_left (intBits_le_64 (by omega) (by omega))
  k_with "shl0" => exact sh_nonneg (by assumption) (by assumption) (by assumption) (Int.le_of_lt hn)
  k_with "shl1" => exact d4_shl (by assumption) (by assumption) (by assumption) (by assumption) (by assumption) (by omega) (Int.le_of_lt hn) hn2 (by assumption)
  k_with "claim" =>
    clear hM
    refine d4_ind ?_ _
    intro k IH
    unfold D4Inner
    intro oc o1 o2 o3 cvs tq tn x a b tx ta tb vs ds rest dc dv d1 d2 d3 hi h0 h1 h2 hlen h3 hx dp un gd cn cs ad ccd cl outer A₀ base h₀ L m s Q E B F X N hne T C hk m1 m2 m3 m4 m5 hd hu ret
    obtain ⟨ck, cnm, c3, c4, c5⟩ := cs
    dsimp only at hk
    subst hk
    refine wpAny_call ?_
    k_dflt kn_enter
    k_steps
    all_goals first
      | exact ret _ _ _ (by k_asm) (by k_asm) (by rw [← d4_leaf (by assumption) (by assumption) (by assumption) (by assumption)]; assumption)
      | exact ret _ _ _ (by k_asm) (by k_asm) (by rw [← d4_node (by assumption) (by assumption) (by assumption) (by assumption) (by assumption) (by assumption) (by assumption) (by assumption) (Int.le_of_lt hn) (by assumption)]; assumption)
      | trace_state
  w_strict (refine wpAny_call ?_; k_dflt k_enter; k_steps)
  all_goals (
    refine' hQ _ _ _ _ _ _ _ _ _ ?F ?N ?dc ?dv ?n1 ?n2 ?g ?g37 ?g30 ?ne ?i
    (case dc => assumption)
    (case dv => assumption)
    (case F => k_asm)
    (case N => exact news_sub (by k_asm) (List.forall_mem_cons.mpr ⟨by k_mem, List.forall_mem_cons.mpr ⟨by k_mem, List.forall_mem_cons.mpr ⟨by k_mem, List.forall_mem_cons.mpr ⟨by k_mem, by ktr_rel⟩⟩⟩⟩))
    (case n1 => assumption)
    (case n2 => assumption)
    (case g => exact lt_of_l1 (by assumption) (by omega))
    (case g37 => omega)
    (case g30 => omega)
    (case ne => exact ne_code (by k_asm) (by k_mem) (by assumption) (by k_mem))
    (case i => first
      | exact d4_end (by assumption) (by assumption)
      | exact d4_end0 (by assumption) hn (by assumption) (by assumption)))
end Mine
end

section
open PySem PySem.W PySem.Spec PySem.Calls PyProof.Rows
set_option maxRecDepth 100000
set_option maxHeartbeats 0
namespace Mine
section
local macro_rules | `(tactic| k_room) => `(tactic| ktr_room)
local macro_rules | `(tactic| walk_at $s:str) => `(tactic| k_extra $s)

theorem d21_spec {prog : Program} {w : World} {p : Program} {loose : List Str} {mean : ExcName → Option Value} {mg mb : Str → Option Value}
 (dp un : Nat) (gd : Option (List Code)) (cn : Str) (cs : Scope) (ad : Addr) (ccd : Value) (cl : List (Str × Addr)) (outer : List Env) (A₀ : Around) (base h₀ : Heap) (L : Addr) (m : Str → Option Value) (s : Shared) (Q E : Value → Shared → Prop)
 (B : Below A₀ base outer h₀) (F : Fr h₀ L s.heap m) (KX : (hd.heap_39 w.params).In h₀) (T : Top p loose mean mg mb h₀) (hk : cs.kind = .function)
 (news : List (Addr × Obj)) (N : News h₀ L s.heap news)
 (a b n : Int) (ta tb tn : Tok) (hb : 0 < b) (hbb : intBits b ≤ 4096) (hlim : (intBits a : Int) - n ≤ 4000)
 (hdp : dp + 10 < recursionLimit) (hu : un + 80 < cLine)
 (hQ : ∀ (t : Nat) (t1 t2 : Tok) (h' : Heap) (tk' : Nat), Fr h₀ L h' m → News h₀ L h' ((t, tupOf (a / b) (a % b) t1 t2) :: news) → (∀ q ∈ news, q.1 < t) → Q (.ref t) { s with heap := h', toks := tk' })  :
 wpAny (model prog w) (ktrTop dp un gd cn cs L ad ccd cl outer) (call (.ref 21) [.int a ta, .int b tb, .int n tn]) Q E s := by
  have kf : PySem.Challenge.rw_wn0139_01.Holds → Mine.hd.heap_39 = Mine.hd.heap_39 := (by k_fill; exact fun _ => rfl)
  clear kf
  obtain ⟨ck, cnm, c3, c4, c5⟩ := cs
  dsimp only at hk
  subst hk
  k_with_none
  k_with "call builtin:divmod" => (k_here; k_dflt (refine' divmod_op (by k_asm) (by k_asm) (by assumption) (by assumption) ?_); intro _ _ _ _ _ _ _ _)
  w_strict (refine wpAny_call ?_; k_dflt k_enter; k_steps)
  all_goals exact hQ _ _ _ _ _ (by k_asm) (by k_asm) (by assumption)
end
end Mine
end

section
open PySem PySem.W PySem.Spec PySem.Calls PyProof.Rows
set_option maxRecDepth 100000
set_option maxHeartbeats 0
namespace Mine
/-- what stands behind a turn: the letters c, the names ps c, all else as ahead of the loop -/
noncomputable def LpEnd {σ : Type} (h₀ : Heap) (L : Addr) (s₁ : Shared) (I : Addr) (it : Obj) (Led : σ → List (Addr × Obj)) (ps : σ → List (Str × Value)) (x : Str) (stored : List Str) (m₀ : Str → Option Value) (R : σ → Prop) (s₂ : Shared) : Prop :=
  ∃ (c : σ) (h' : Heap) (tk : Nat) (m' : Str → Option Value), s₂ = { s₁ with heap := h', toks := tk } ∧ Fr h₀ L h' m' ∧ News h₀ L h' ((I, it) :: Led c) ∧ (∀ p ∈ ps c, m' p.1 = some p.2) ∧ (∀ z, z ≠ x → (∀ p ∈ ps c, z ≠ p.1) → stored.contains z = false → m' z = m₀ z) ∧ R c
noncomputable def LpPost {σ : Type} (h₀ : Heap) (L : Addr) (s₁ : Shared) (I : Addr) (it : Obj) (Led : σ → List (Addr × Obj)) (ps : σ → List (Str × Value)) (x : Str) (stored : List Str) (m₀ : Str → Option Value) (R : σ → Prop) (Q : Flow → Shared → Prop) (f : Flow) (s₂ : Shared) : Prop :=
  match f with
  | .ret v => Q (.ret v) s₂
  | .brk => Q .next s₂
  | _ => LpEnd h₀ L s₁ I it Led ps x stored m₀ R s₂
theorem lp_end {σ : Type} {h₀ : Heap} {L : Addr} {s₁ : Shared} {I : Addr} {it : Obj} {Led : σ → List (Addr × Obj)} {ps : σ → List (Str × Value)} {x : Str} {stored : List Str} {m₀ m' : Str → Option Value} {R : σ → Prop} {Q : Flow → Shared → Prop} {h' : Heap} {tk : Nat} {all : List (Addr × Obj)} (c : σ)
    (F : Fr h₀ L h' m') (N : News h₀ L h' all) (hs : ∀ p ∈ (I, it) :: Led c, p ∈ all) (hk : ∀ p ∈ ps c, m' p.1 = some p.2) (hr : ∀ z, z ≠ x → (∀ p ∈ ps c, z ≠ p.1) → stored.contains z = false → m' z = m₀ z) (hp : R c) :
    LpPost h₀ L s₁ I it Led ps x stored m₀ R Q .next { s₁ with heap := h', toks := tk } :=
  ⟨c, h', tk, m', rfl, F, fun p q => N p (hs p q), hk, hr, hp⟩
theorem ints_snoc {a : List Value} {b : List Int} (h : IntsAre a b) (k : Int) (t : Tok) : IntsAre (a ++ [.int k t]) (b ++ [k]) := by
  induction h with
  | nil => exact .cons _ _ .nil
  | cons _ _ _ ih => exact .cons _ _ ih
theorem ints_rev {a : List Value} {b : List Int} (h : IntsAre a b) : IntsAre a.reverse b.reverse := by
  induction h with
  | nil => exact .nil
  | cons k t _ ih => rw [List.reverse_cons, List.reverse_cons]; exact ints_snoc ih k t
section
variable {prog : Program} {w : World} {A : Around} {E : Value → Shared → Prop} {s : Shared} {env : Env} {h₀ : Heap} {x : Str} {body : List Stmt} {Q : Flow → Shared → Prop}
theorem lp_off {σ : Type} {Led : σ → List (Addr × Obj)} {c₀ c : σ} {I : Addr} (hadr : ∀ c, (Led c).map (·.1) = (Led c₀).map (·.1)) (h : ∀ p ∈ Led c₀, p.1 ≠ I) : ∀ p ∈ Led c, p.1 ≠ I := by
  intro p hp
  have : p.1 ∈ (Led c).map (·.1) := List.mem_map.mpr ⟨p, hp, rfl⟩
  rw [hadr c] at this
  obtain ⟨q, hq, e⟩ := List.mem_map.mp this
  rw [← e]; exact h q hq
theorem offI_of {I : Addr} {it : Obj} : ∀ {l : List (Addr × Obj)}, (∀ p ∈ l, p.1 ≠ I) → OffI I it l
  | [], _ => trivial
  | p :: _, h => ⟨.inl (h p (.head _)), offI_of fun q hq => h q (.tail _ hq)⟩
theorem lp_step {σ : Type} {Led : σ → List (Addr × Obj)} {ps : σ → List (Str × Value)} {stored : List Str} {m₀ : Str → Option Value} {R : σ → Prop} {I : Addr} {it : Obj} {s₁ : Shared} {rest : (Str → Option Value) → List (Addr × Obj) → Prop}
    (hoff : ∀ c, ∀ p ∈ Led c, p.1 ≠ I) (hr : ∀ c m, (∀ p ∈ ps c, m p.1 = some p.2) → (∀ z, z ≠ x → (∀ p ∈ ps c, z ≠ p.1) → stored.contains z = false → m z = m₀ z) → R c → rest m (Led c)) (f : Flow) (s₂ : Shared)
    (h : LpPost h₀ env.locals s₁ I it Led ps x stored m₀ R Q f s₂) : UnrPost h₀ env.locals s₁ I it rest Q f s₂ := by
  cases f with
  | ret v => exact h
  | brk => exact h
  | next =>
    obtain ⟨c, h', tk, m', e, F, N, h1, h2, h3⟩ := h
    exact ⟨h', tk, m', Led c, e, F, N, hoff c, hr c m' h1 h2 h3⟩
  | cont =>
    obtain ⟨c, h', tk, m', e, F, N, h1, h2, h3⟩ := h
    exact ⟨h', tk, m', Led c, e, F, N, hoff c, hr c m' h1 h2 h3⟩

theorem rev_ints {σ : Type} {ax I : Addr} {lo : Obj} {vs : List Value} {ns : List Int} {n : Nat} {m₀ : Str → Option Value} (Led : σ → List (Addr × Obj)) (ps : σ → List (Str × Value)) (stored : List Str) (P : List Int → σ → Prop) (c₀ : σ)
    (hh : A.handled = none) (F : Fr h₀ env.locals s.heap m₀) (N : News h₀ env.locals s.heap ((I, revObj ax ((vs.length : Int) - 1)) :: Led c₀)) (hi : IntsAre vs ns)
    (hadr : ∀ c, (Led c).map (·.1) = (Led c₀).map (·.1)) (hof : ∀ p ∈ Led c₀, p.1 ≠ I) (hm : ∀ c, (ax, lo) ∈ Led c) (hc : lo.cls = .type "list") (hd : lo.data = .seq vs.toArray n)
    (hk : ∀ p ∈ ps c₀, m₀ p.1 = some p.2) (hp : P ns.reverse c₀)
    (turn : ∀ (c : σ) (k : Int) (r : List Int) t (u : Str → Option Value) it h tk, it.cls = .type "list_reverseiterator" → P (k :: r) c →
      Fr h₀ env.locals h (fun y => if y = x then some (.int k t) else kstB (fun z => if stored.contains z then u z else m₀ z) (ps c) y) → News h₀ env.locals h ((I, it) :: Led c) →
      wpAny (model prog w) A (execs body env) (LpPost h₀ env.locals { s with heap := h, toks := tk } I it Led ps x stored m₀ (P r) Q) E { s with heap := h, toks := tk })
    (done : ∀ (c : σ) (u : Str → Option Value) h tk, P [] c → Fr h₀ env.locals h (fun y => if y = x then u y else kstB (fun z => if stored.contains z then u z else m₀ z) (ps c) y) → News h₀ env.locals h (Led c) → Q .next { s with heap := h, toks := tk }) :
    wpAny (model prog w) A (pyIter (.ref I)) (fun it s₂ => LoopAtV prog w A h₀ env x body Q E it s₂) E s := by
  refine iter_revUnr (lo := lo) hh F N (offI_of hof) (hm c₀) hc hd ?_
  have hir : IntsAre vs.reverse ns.reverse := ints_rev hi
  have hall := fun c => lp_off (c := c) hadr hof
  have key : ∀ (L : List Value) (ds : List Int), IntsAre L ds → ∀ c m, (∀ p ∈ ps c, m p.1 = some p.2) → (∀ z, z ≠ x → (∀ p ∈ ps c, z ≠ p.1) → stored.contains z = false → m z = m₀ z) → P ds c →
      RevRest prog w A E h₀ env x body Q s I (ax, lo) L m (Led c) := by
    intro L ds hL
    induction hL with
    | nil =>
      intro c m h1 h2 hp
      exact RevRest.zero fun h tk F' N' => done c m h tk hp (kst_frOut h1 h2 F') N'
    | @cons L' ds' k t hL ih =>
      intro c m h1 h2 hp
      refine RevRest.succ fun it h tk hit F' N' => ?_
      refine wpAny_mono (turn c _ _ _ m it h tk hit hp (kst_fr h1 h2 F') N') (fun f s₂ q => ?_) fun _ _ e => e
      exact lp_step hall (fun c m h1 h2 h3 => ⟨hm c, ih c m h1 h2 h3⟩) f s₂ q
  exact key _ _ hir c₀ m₀ hk (fun _ _ _ _ => rfl) hp

theorem rng_ints {σ : Type} {r : Addr} {a₀ b₀ : Int} {t₀ u₀ v₀ : Tok} {n : Nat} {m₀ : Str → Option Value} (Led : σ → List (Addr × Obj)) (ps : σ → List (Str × Value)) (stored : List Str) (P : Nat → σ → Prop) (c₀ : σ)
    (hh : A.handled = none) (hr : IsRange s.heap r a₀ b₀ 1 t₀ u₀ v₀) (hsmall : Builtin.Range.small a₀ b₀ 1 = true) (hn : Builtin.Range.rangeSize a₀ b₀ 1 = (n : Int)) (F : Fr h₀ env.locals s.heap m₀) (N : News h₀ env.locals s.heap (Led c₀))
    (hadr : ∀ c, (Led c).map (·.1) = (Led c₀).map (·.1))
    (hk : ∀ p ∈ ps c₀, m₀ p.1 = some p.2) (hp : P 0 c₀)
    (turn : ∀ (c : σ) (i : Nat) (k : Int) t (u : Str → Option Value) I it h tk, i < n → k = a₀ + (i : Int) → P i c → (∀ p ∈ Led c₀, p.1 < I) →
      Fr h₀ env.locals h (fun y => if y = x then some (.int k t) else kstB (fun z => if stored.contains z then u z else m₀ z) (ps c) y) → News h₀ env.locals h ((I, it) :: Led c) →
      wpAny (model prog w) A (execs body env) (LpPost h₀ env.locals { s with heap := h, toks := tk } I it Led ps x stored m₀ (P (i + 1)) Q) E { s with heap := h, toks := tk })
    (done : ∀ (c : σ) (u : Str → Option Value) h tk, P n c → Fr h₀ env.locals h (fun y => if y = x then u y else kstB (fun z => if stored.contains z then u z else m₀ z) (ps c) y) → News h₀ env.locals h (Led c) → Q .next { s with heap := h, toks := tk }) :
    wpAny (model prog w) A (pyIter (.ref r)) (fun it s₂ => LoopAtV prog w A h₀ env x body Q E it s₂) E s := by
  refine iter_rangeUnr hh hr hsmall hn F N fun I hI => ?_
  have hall := fun c => lp_off (c := c) hadr fun p hp => Nat.ne_of_lt (hI p hp)
  have key : ∀ (k i : Nat), k + i = n → ∀ c m, (∀ p ∈ ps c, m p.1 = some p.2) → (∀ z, z ≠ x → (∀ p ∈ ps c, z ≠ p.1) → stored.contains z = false → m z = m₀ z) → P i c →
      RangeRest prog w A E h₀ env x body Q s I a₀ n k i m (Led c) := by
    intro k
    induction k with
    | zero =>
      intro i hi c m h1 h2 hp
      have : i = n := by omega
      subst this
      exact RangeRest.zero fun h tk F' N' => done c m h tk hp (kst_frOut h1 h2 F') N'
    | succ k ih =>
      intro i hi c m h1 h2 hp
      refine RangeRest.succ fun t h tk F' N' => ?_
      refine wpAny_mono (turn c i _ t m I _ h tk (by omega) rfl hp hI (kst_fr h1 h2 F') N') (fun f s₂ q => ?_) fun _ _ e => e
      exact lp_step hall (fun c m h1 h2 h3 => ih (i + 1) (by omega) c m h1 h2 h3) f s₂ q
  exact key n 0 (by omega) c₀ m₀ hk (fun _ _ _ _ => rfl) hp
end
end Mine
end

section
/- long division digit by digit: plain -/
namespace Mine
open PySem PyProof.Rows
theorem ev_bound {X : Int} (hX : 0 < X) : ∀ (ds : List Int), (∀ d ∈ ds, 0 ≤ d ∧ d < X) → 0 ≤ ev X ds ∧ ev X ds < X ^ ds.length
  | [], _ => by simp [ev]
  | d :: ds, h => by
    have h1 := h d (.head _)
    obtain ⟨h2, h3⟩ := ev_bound hX ds fun q hq => h q (.tail _ hq)
    rw [ev, List.length_cons, Int.pow_succ, Int.mul_comm]
    refine ⟨by have := Int.mul_nonneg h2 (Int.le_of_lt hX); omega, ?_⟩
    have h4 : (ev X ds + 1) * X ≤ X ^ ds.length * X := Int.mul_le_mul_of_nonneg_right (by omega) (Int.le_of_lt hX)
    rw [Int.add_mul] at h4
    omega
structure DivSt (a X b : Int) (tot : Nat) (rem : List Int) (r : Int) (qs : List Int) : Prop where
  ex : ∃ v : Int, a = v * X ^ rem.length + ev X rem.reverse ∧ r = v % b ∧ ev X qs.reverse = v / b
  dig : ∀ d ∈ rem, 0 ≤ d ∧ d < X
  qd : ∀ q ∈ qs, 0 ≤ q ∧ q < X
  len : qs.length + rem.length = tot
theorem DivSt.start {a X b : Int} {ds : List Int} (h : ev X ds = a) (hd : ∀ d ∈ ds, 0 ≤ d ∧ d < X) : DivSt a X b ds.length ds.reverse 0 [] where
  ex := ⟨0, by rw [List.reverse_reverse, h]; simp, by simp, by simp [ev]⟩
  dig := fun d hm => hd d (List.mem_reverse.mp hm)
  qd := fun _ h => nomatch h
  len := by simp
theorem DivSt.rb {a X b : Int} {tot : Nat} {rem : List Int} {r : Int} {qs : List Int} (S : DivSt a X b tot rem r qs) (hb : 0 < b) : 0 ≤ r ∧ r < b := by
  obtain ⟨v, _, h, _⟩ := S.ex
  rw [h]; exact ⟨Int.emod_nonneg _ (by omega), Int.emod_lt_of_pos _ hb⟩
theorem DivSt.step {a X b d : Int} {tot : Nat} {rem : List Int} {r : Int} {qs : List Int} (S : DivSt a X b tot (d :: rem) r qs) (hb : 0 < b) : DivSt a X b tot rem ((r * X + d) % b) (qs ++ [(r * X + d) / b]) := by
  have hr := S.rb hb
  obtain ⟨v, h1, h2, h3⟩ := S.ex
  have hd := S.dig d (.head _)
  have hX : 0 < X := by omega
  have hv : v = b * (v / b) + r := by rw [h2]; have := Int.mul_ediv_add_emod v b; omega
  refine ⟨⟨v * X + d, ?_, ?_, ?_⟩, fun q hq => S.dig q (.tail _ hq), fun q hq => ?_, ?_⟩
  · rw [List.reverse_cons, ev_append, List.length_cons, Int.pow_succ, List.length_reverse] at h1
    rw [h1]; simp only [ev]; grind
  · have : v * X + d = r * X + d + b * (v / b * X) := by
      generalize v / b = z at hv
      rw [hv]; grind
    rw [this, Int.add_mul_emod_self_left]
  · rw [List.reverse_append]
    show (r * X + d) / b + X * ev X qs.reverse = _
    rw [h3]
    have : v * X + d = r * X + d + b * (v / b * X) := by
      generalize v / b = z at hv
      rw [hv]; grind
    rw [this, Int.add_mul_ediv_left _ _ (by omega), Int.mul_comm X]
  · rcases List.mem_append.mp hq with hq | hq
    · exact S.qd q hq
    · rw [List.mem_singleton.mp hq]
      have h0 : 0 ≤ r * X := Int.mul_nonneg hr.1 (Int.le_of_lt hX)
      refine ⟨Int.ediv_nonneg (by omega) (by omega), Int.ediv_lt_of_lt_mul hb ?_⟩
      have h4 : (r + 1) * X ≤ b * X := Int.mul_le_mul_of_nonneg_right (by omega) (Int.le_of_lt hX)
      rw [Int.add_mul] at h4
      rw [Int.mul_comm X]; omega
  · have := S.len
    simp only [List.length_append, List.length_cons, List.length_nil] at this ⊢
    omega
theorem DivSt.done {a X b : Int} {tot : Nat} {r : Int} {qs : List Int} (S : DivSt a X b tot [] r qs) : r = a % b ∧ ev X qs.reverse = a / b ∧ qs.length = tot := by
  obtain ⟨v, h1, h2, h3⟩ := S.ex
  have : a = v := by rw [h1]; simp [ev]
  subst this
  exact ⟨h2, h3, by have := S.len; simpa using this⟩
theorem bits_of_lt {x : Int} {k : Nat} (h0 : 0 ≤ x) (h : x < 2 ^ k) : Builtin.Int.intBits x ≤ k := by
  refine intBits_le_iff.mpr ?_
  have : ((x.natAbs : Nat) : Int) < ((2 ^ k : Nat) : Int) := by
    rw [Int.natCast_pow]
    have : (x.natAbs : Int) = x := by omega
    rw [this]; exact h
  exact Int.ofNat_lt.mp this
theorem lt_of_bits {x : Int} : x < 2 ^ (Builtin.Int.intBits x) := by
  have h1 : x.natAbs < 2 ^ Builtin.Int.intBits x := intBits_le_iff.mp (Nat.le_refl _)
  have h4 : (x.natAbs : Int) < ((2 ^ Builtin.Int.intBits x : Nat) : Int) := Int.ofNat_lt.mpr h1
  rw [Int.natCast_pow] at h4
  exact Int.lt_of_le_of_lt Int.le_natAbs h4
theorem DivSt.bits {a b d : Int} {tot : Nat} {rem : List Int} {r : Int} {qs : List Int} (S : DivSt a (2 ^ Builtin.Int.intBits b) b tot (d :: rem) r qs) (hb : 0 < b) :
    Builtin.Int.intBits (r * 2 ^ Builtin.Int.intBits b + d) ≤ Builtin.Int.intBits b + Builtin.Int.intBits b := by
  have hr := S.rb hb
  have hd := S.dig d (.head _)
  have hl := lt_of_bits (x := b)
  generalize hX : (2 : Int) ^ Builtin.Int.intBits b = X at *
  have h0 : 0 ≤ r * X := Int.mul_nonneg hr.1 (by omega)
  refine bits_of_lt (by omega) ?_
  rw [Int.pow_add, hX]
  have h4 : (r + 1) * X ≤ X * X := Int.mul_le_mul_of_nonneg_right (by omega) (by omega)
  rw [Int.add_mul] at h4
  omega
theorem seg_mem {ds : List Int} {a b : Int} : ∀ d ∈ seg ds a b, d ∈ ds := fun _ h => List.mem_of_mem_drop (List.mem_of_mem_take h)
theorem seg_bits {ds : List Int} {n : Nat} (hl : ds.length < 64) (hn : n ≤ 2 ^ 13) (hd : ∀ d ∈ ds, 0 ≤ d ∧ d < 2 ^ n) (a b : Int) (h0 : 0 ≤ a) (hab : a < b) (hb : b ≤ ds.length) : Builtin.Int.intBits (ev (2 ^ n) (seg ds a b)) ≤ 2 ^ 20 := by
  obtain ⟨h1, h2⟩ := ev_bound (X := 2 ^ n) (Int.pow_pos (by decide)) (seg ds a b) fun d hm => hd d (seg_mem d hm)
  rw [← Int.pow_mul] at h2
  refine Nat.le_trans (bits_of_lt h1 h2) ?_
  rw [seg_len h0 hb]
  have : (b - a).toNat ≤ 64 := by omega
  exact Nat.le_trans (Nat.mul_le_mul hn this) (by decide)
theorem DivSt.start2 {a b : Int} {n : Nat} (ha : 0 ≤ a) (hn : 1 ≤ n) : DivSt a (2 ^ n) b (((Builtin.Int.intBits a : Int) + (n : Int) - 1) / (n : Int)).toNat (dg (2 ^ n) (((Builtin.Int.intBits a : Int) + (n : Int) - 1) / (n : Int)).toNat a).reverse 0 [] := by
  have hX : (0 : Int) < 2 ^ n := Int.pow_pos (by decide)
  have h := DivSt.start (a := a) (X := 2 ^ n) (b := b) (ds := dg (2 ^ n) (((Builtin.Int.intBits a : Int) + (n : Int) - 1) / (n : Int)).toNat a) (ev_dg hX _ _ ha (ndig (n := (n : Int)) ha (by omega))) (dg_mem hX _ _)
  rw [dg_len] at h
  exact h
end Mine
end

section
open PySem PySem.W PySem.Spec PySem.Calls PyProof.Rows
set_option maxRecDepth 100000
set_option maxHeartbeats 0
namespace Mine
section
variable {prog : Program} {w : World} {A : Around} {E : Value → Shared → Prop} {s : Shared} {h₀ : Heap} {L D : Addr} {m : Str → Option Value} {news : List (Addr × Obj)} {g : Obj → List (Addr × Obj)} {vs : List Value} {ds : List Int} {e : Nat} {Q : Value → Shared → Prop}
theorem updF_upd {d : Addr} {o o' : Obj} : ∀ {l : List (Addr × Obj)} {g : Obj → List (Addr × Obj)}, UpdF d o l g → Upd d o o' l (g o')
  | _, _, .head h => .head h
  | _, _, .tail h r => .tail h (updF_upd r)
theorem append_op {a : Int} {t : Tok} (F : Fr h₀ L s.heap m) (N : News h₀ L s.heap news) (U : UpdF D (PySem.W.listOf vs.toArray e) news g) (hi : IntsAre vs ds) (hb : ds.length < 2 ^ 20)
    (h : ∀ ws h', Fr h₀ L h' m → News h₀ L h' (g (PySem.W.listOf ws.toArray (e + 1))) → IntsAre ws (ds ++ [a]) → Q .none { s with heap := h' }) :
    wpAny (model prog w) A (call (.builtin "list.append") [.ref D, .int a t]) Q E s := by
  refine append_K F N (updF_upd U) (fun h' F' N' => h (vs ++ [Value.int a t]) h' F' ?_ (ints_snoc hi a t)) ?_
  · have : vs.toArray.push (Value.int a t) = (vs ++ [Value.int a t]).toArray := by simp
    rw [this] at N'; exact N'
  · rw [List.size_toArray, hi.length, PySem.sizeLine_eq]; omega
theorem reverse_op (F : Fr h₀ L s.heap m) (N : News h₀ L s.heap news) (U : UpdF D (PySem.W.listOf vs.toArray e) news g) (hi : IntsAre vs ds) (hb : ds.length < 2 ^ 20)
    (h : ∀ ws h', Fr h₀ L h' m → News h₀ L h' (g (PySem.W.listOf ws.toArray e)) → IntsAre ws ds.reverse → Q .none { s with heap := h' }) :
    wpAny (model prog w) A (call (.builtin "list.reverse") [.ref D]) Q E s := by
  refine kl_reverse (l := vs.reverse) F N rfl (updF_upd U) ?_ (fun h' F' N' => h _ h' F' N' (ints_rev hi))
  show vs.length ≤ _
  rw [hi.length, PySem.sizeLine_eq]; omega
end
end Mine
end

section
open PySem PySem.W PySem.Spec PySem.Calls PyProof.Rows
set_option maxRecDepth 100000
set_option maxHeartbeats 0
namespace Mine
structure D4S where
  vs : List Value
  e : Nat
  qs : List Int
  r : Int
  tr : Tok
section
local macro_rules | `(tactic| k_room) => `(tactic| ktr_room)
local macro_rules | `(tactic| k_all) => `(tactic| first | with_reducible assumption | exact ne_of_l1 (by assumption) (by omega))
local macro_rules | `(tactic| k_mem) => `(tactic| assumption)

theorem d4_bits1 {b : Int} (hb : 0 < b) : 1 ≤ Builtin.Int.intBits b := by
  rcases Nat.eq_zero_or_pos (Builtin.Int.intBits b) with h | h
  · have := lt_of_bits (x := b)
    rw [h] at this
    simp at this
    omega
  · exact h
theorem d4_shl1 {r b : Int} (h0 : 0 ≤ r) (h1 : r < b) (hbb : Builtin.Int.intBits b ≤ 4000) : ((Builtin.Int.intBits r : Nat) : Int) + ((Builtin.Int.intBits b : Nat) : Int) ≤ 2 ^ 27 := by
  have := bits_mono (m := 4000) h0 (Int.le_of_lt h1) hbb
  omega
theorem d4_lim {x : Int} {n : Nat} (h : Builtin.Int.intBits x ≤ n + n) (hn : n ≤ 4000) : ((Builtin.Int.intBits x : Nat) : Int) - (n : Int) ≤ 4000 := by omega
local macro_rules | `(tactic| ktr_rel) => `(tactic| (intro q hq; repeat (first | exact hq | refine List.Mem.tail _ ?_)))
local macro_rules | `(tactic| walk_at $s:str) => `(tactic| k_extra $s)
theorem dmp_spec {prog : Program} {w : World} {p : Program} {loose : List Str} {mean : ExcName → Option Value} {mg mb : Str → Option Value}
 (dp un : Nat) (gd : Option (List Code)) (cn : Str) (cs : Scope) (ad : Addr) (ccd : Value) (cl : List (Str × Addr)) (outer : List Env) (A₀ : Around) (base h₀ : Heap) (L : Addr) (m : Str → Option Value) (s : Shared) (Q E : Value → Shared → Prop)
 (B : Below A₀ base outer h₀) (F : Fr h₀ L s.heap m) (KX : (hd.heap_39 w.params).In h₀) (T : Top p loose mean mg mb h₀) (hk : cs.kind = .function) (C34 : CodeHd base 34 30) (C41 : CodeHd base 41 37)
 (p37 p30 : Array Value) (rest : List (Addr × Obj)) (N : News h₀ L s.heap ((37, tabObj p37) :: (30, tabObj p30) :: rest)) (r37 : ∀ q ∈ rest, q.1 ≠ 37) (r30 : ∀ q ∈ rest, q.1 ≠ 30)
 (S37 : TabSt 47 4 (Str.ofString "_digits2int.<locals>.inner") rest p37) (S30 : TabSt 32 4 (Str.ofString "_int2digits.<locals>.inner") rest p30)
 (a b : Int) (ta tb : Tok) (ha : 0 ≤ a) (hb : 0 < b) (hba : intBits a ≤ 2 ^ 13) (hbb : intBits b ≤ 4000) (hD : ((intBits a : Int) + (intBits b : Int) - 1) / (intBits b : Int) < 64)
 (hdp : dp + 200 < recursionLimit) (hu : un + 1600 < cLine)
 (hQ : ∀ (t : Nat) (t1 t2 : Tok) (h' : Heap) (tk' : Nat) (c1 c2 : Nat) (o1 o2 : Obj) (cv1 cv2 : Array Value) (tq1 tq2 : Tok), Fr h₀ L h' m →
   News h₀ L h' ((t, tupOf (a / b) (a % b) t1 t2) :: (c1, o1) :: (c2, o2) :: (37, tabObj #[rawInt 47, rawInt 4, .ref c1]) :: (30, tabObj #[rawInt 32, rawInt 4, .ref c2]) :: rest) →
   o1.data = .fields cv1 → cv1[1]? = some (.str (Str.ofString "_digits2int.<locals>.inner") tq1) → o2.data = .fields cv2 → cv2[1]? = some (.str (Str.ofString "_int2digits.<locals>.inner") tq2) →
   c1 ≠ 37 → c1 ≠ 30 → c2 ≠ 37 → c2 ≠ 30 → Q (.ref t) { s with heap := h', toks := tk' })  :
 wpAny (model prog w) (ktrTop dp un gd cn cs L ad ccd cl outer) (call (.ref 49) [.int a ta, .int b tb]) Q E s := by
  have kf : PySem.Challenge.rw_wn0139_01.Holds → Mine.hd.heap_39 = Mine.hd.heap_39 := (by k_fill; exact fun _ => rfl)
  clear kf
  obtain ⟨ck, cnm, c3, c4, c5⟩ := cs
  dsimp only at hk
  subst hk
  k_with_none
  k_with "pyIter ref" => refine Stop.on ?_
  k_with "call ref" => refine Stop.on ?_
  k_with "binaryOp LShift int int" => (k_here; refine shl_op (by k_extra "shl0") (by k_extra "shl1") ?_; intro _ _ _)
  k_with "call builtin:list.append" => (k_here; k_dflt (refine' append_op (by k_asm) (by k_asm) (by k_updF) (by k_extra "ints") (by k_extra "len") ?_); intro _ _ _ N9 _; (try dsimp only at N9))
  k_with "call builtin:list.reverse" => (k_here; k_dflt (refine' reverse_op (by k_asm) (by k_asm) (by k_updF) (by k_extra "ints") (by k_extra "len") ?_); intro _ _ _ N9 _; (try dsimp only at N9))
  w_strict (
    refine wpAny_call ?_
    k_dflt k_enter
    k_steps
    refine Stop.off ?_
    k_dflt (refine' i2d_spec _ _ _ _ _ _ _ _ _ _ _ _ _ _ _ _ _ ?B ?F ?X ?T ?hk C34 p37 p30 rest ?N r30 S30 _ _ _ _ ?hx ?hn ?hn2 ?hbx ?hD ?hdp ?hu ?_; (case B => k_asm); (case F => k_asm); (case X => k_asm); (case T => k_asm); (case hk => exact rfl); (case N => k_asm))
    case hx => exact ha
    case hn => have := d4_bits1 hb; (show (0 : Int) < ((Builtin.Int.intBits b : Nat) : Int)); omega
    case hn2 => have hbb' : Builtin.Int.intBits b ≤ 4000 := hbb; show ((Builtin.Int.intBits b : Nat) : Int) ≤ 2 ^ 13; omega
    case hbx => exact hba
    case hD => exact hD
    case hdp => ktr_room
    case hu => ktr_units
    intro l vs e h1 tk1 c2 o2 cv2 tq2 F1 N1 dc2 dv2 n1 m1 g1 g37 g30 ne1 i1
    (try dsimp only); (try k_fold)
    k_steps
    rename_i x1 l9 x2 la x3 D9 x4 F9 N9 lb
    refine Stop.off ?_
    k_dflt (
     refine' rev_ints (σ := D4S) (lo := PySem.W.listOf vs.toArray e) (vs := vs) (ns := dg (2 ^ (intBits b)) (((intBits a : Int) + (intBits b : Int) - 1) / (intBits b : Int)).toNat a) (fun c => [(l9, PySem.W.listOf c.vs.toArray c.e), (l, PySem.W.listOf vs.toArray e), (c2, o2), (37, tabObj p37), (30, tabObj #[rawInt 32, rawInt 4, .ref c2])] ++ rest)
      (fun c => [(Str.ofString "r", Value.int c.r c.tr)]) [Str.ofString "q_digit", Str.ofString "r"]
      (fun rem c => DivSt a (2 ^ (intBits b)) b (((intBits a : Int) + (intBits b : Int) - 1) / (intBits b : Int)).toNat rem c.r c.qs ∧ IntsAre c.vs c.qs)
      ⟨[], 0, [], 0, _⟩ ?hh ?F ?N ?hi ?hadr ?hof ?hm ?hc ?hd ?hk ?hp ?turn ?done)
    case hh => rfl
    case F => exact F9
    case N => exact N9
    case hi => exact i1
    case hadr => intro c; rfl
    case hof => exact fun p hp => Nat.ne_of_lt (ktn_ltOf (l := [(l9, PySem.W.listOf [].toArray 0), (l, PySem.W.listOf vs.toArray e), (c2, o2), (37, tabObj p37), (30, tabObj #[rawInt 32, rawInt 4, .ref c2])] ++ rest) lb p hp)
    case hm => intro c; exact .tail _ (.head _)
    case hc => rfl
    case hd => rfl
    case hk => exact List.forall_mem_cons.mpr ⟨by with_unfolding_all rfl, List.forall_mem_nil _⟩
    case hp => exact ⟨DivSt.start2 ha (d4_bits1 hb), .nil⟩
    case turn =>
      intro c k r t u it h tk hit hP F2 N2
      dsimp only [List.cons_append, List.nil_append] at N2
      have hrb := hP.1.rb hb
      k_with "shl0" => exact Int.natCast_nonneg _
      k_with "shl1" => exact d4_shl1 hrb.1 hrb.2 hbb
      k_steps
      refine Stop.off ?_
      subst_vars
      k_dflt (refine' d21_spec _ _ _ _ _ _ _ _ _ _ _ _ _ _ _ _ _ ?B ?F ?X ?T ?hk _ ?N _ _ _ _ _ _ hb ?hbb ?hlim ?hdp ?hu ?_; (case B => k_asm); (case F => k_asm); (case X => k_asm); (case T => k_asm); (case hk => exact rfl); (case N => k_asm))
      case hbb => exact Nat.le_trans hbb (by decide)
      case hlim => exact d4_lim (hP.1.bits hb) hbb
      case hdp => ktr_room
      case hu => ktr_units
      intro t5 t51 t52 h5 tk5 F5 N5 g5
      (try dsimp only); (try k_fold)
      k_lt g5
      k_with "ints" => exact hP.2
      k_with "len" => have := hP.1.len; simp only [List.length_cons] at this; omega
      k_steps
      rename_i ws7 h7 F7 i7
      have N7 := N9
      refine lp_end (D4S.mk ws7 (c.e + 1) (c.qs ++ [(c.r * 2 ^ (intBits b) + k) / b]) ((c.r * 2 ^ (intBits b) + k) % b) t52) F7 N7 ?hs ?hk ?hr ?hp
      case hs => (dsimp only [List.cons_append, List.nil_append]); exact fun q hq => List.Mem.tail _ hq
      case hp => exact ⟨hP.1.step hb, i7⟩
      case hk => kst_all
      case hr =>
        intro z z1 z2 z3
        simp only [List.forall_mem_cons, List.not_mem_nil, false_implies, implies_true, and_true, ne_eq] at z2
        simp only [List.contains_cons, List.contains_nil, Bool.or_false, Bool.or_eq_false_iff, beq_eq_false_iff_ne, ne_eq] at z3
        simp [kstB, z1, z2, z3]
    case done =>
      intro c u h tk hP F2 N2
      dsimp only [List.cons_append, List.nil_append] at N2
      obtain ⟨hr1, hr2, hr3⟩ := hP.1.done
      have hr4 : c.qs.length < 64 := by rw [hr3]; omega
      k_with "ints" => exact hP.2
      k_with "len" => omega
      k_steps
      refine Stop.off ?_
      rename_i ws7 h7 F7 i7
      have N7 := N9
      k_dflt (refine' d2i_spec _ _ _ _ _ _ _ _ _ _ _ _ _ _ _ _ _ ?B ?F ?X ?T ?hk C41 p37 #[rawInt 32, rawInt 4, .ref c2] ((l9, PySem.W.listOf ws7.toArray c.e) :: (l, PySem.W.listOf vs.toArray e) :: (c2, o2) :: rest) ?N ?r37 ?S37 l9 ws7 c.e c.qs.reverse _ _ ?hl ?hn ?hn2 ?hi ?hlen ?hbits ?hdp ?hu ?_; (case B => k_asm); (case F => k_asm); (case X => k_asm); (case T => k_asm); (case hk => exact rfl))
      case N => exact news_sub N7 (List.forall_mem_cons.mpr ⟨by k_mem, List.forall_mem_cons.mpr ⟨by k_mem, List.forall_mem_cons.mpr ⟨by k_mem, List.forall_mem_cons.mpr ⟨by k_mem, List.forall_mem_cons.mpr ⟨by k_mem, by ktr_rel⟩⟩⟩⟩⟩)
      case r37 => exact List.forall_mem_cons.mpr ⟨Nat.ne_of_gt (Nat.lt_trans g37 la.1), List.forall_mem_cons.mpr ⟨Nat.ne_of_gt g37, List.forall_mem_cons.mpr ⟨n1, r37⟩⟩⟩
      case S37 => exact S37.up fun q hq => .tail _ (.tail _ (.tail _ hq))
      case hl => exact .head _
      case hn => exact Int.natCast_nonneg _
      case hn2 => have hbb' : Builtin.Int.intBits b ≤ 4000 := hbb; show ((Builtin.Int.intBits b : Nat) : Int) ≤ 2 ^ 20; omega
      case hi => exact i7
      case hlen => rw [List.length_reverse]; exact hr4
      case hbits => exact seg_bits (by rw [List.length_reverse]; exact hr4) (Nat.le_trans hbb (by decide)) fun d hd => hP.1.qd d (List.mem_reverse.mp hd)
      case hdp => ktr_room
      case hu => ktr_units
      intro q5 t5 h5 tk5 c1 o1 cv1 tq1 F5 N5 dc1 dv1 k1 k2 e5
      (try dsimp only); (try k_fold)
      k_steps
      rename_i D5 h6 F6 N6 l6 kF kN kT kX
      have e6 := e5.trans hr2
      rw [hr1, e6] at kN
      exact hQ D5 _ _ _ _ c1 c2 o1 o2 cv1 cv2 tq1 tq2 kF (news_sub kN (List.forall_mem_cons.mpr ⟨by k_mem, List.forall_mem_cons.mpr ⟨by k_mem, List.forall_mem_cons.mpr ⟨by k_mem, List.forall_mem_cons.mpr ⟨by k_mem, List.forall_mem_cons.mpr ⟨by k_mem, by ktr_rel⟩⟩⟩⟩⟩)) dc1 dv1 dc2 dv2 k1 k2 n1 m1)

end
end Mine
end

section
open PySem PySem.W PySem.Spec PySem.Calls PyProof.Rows
set_option maxRecDepth 100000
set_option maxHeartbeats 0
namespace Mine
/-- what a call f(a, b) with the answer (q, r) does to the ledger -/
noncomputable def DmC (prog : Program) (w : World) (p : Program) (loose : List Str) (mean : ExcName → Option Value) (mg mb : Str → Option Value) (f kd ku : Nat) (a b q r : Int) : Prop :=
 ∀ (ta tb : Tok) (dp un : Nat) (gd : Option (List Code)) (cn : Str) (cs : Scope) (ad : Addr) (ccd : Value) (cl : List (Str × Addr)) (outer : List Env) (A₀ : Around) (base h₀ : Heap) (L : Addr) (m : Str → Option Value) (s : Shared) (Q E : Value → Shared → Prop),
 Below A₀ base outer h₀ → Fr h₀ L s.heap m → (hd.heap_39 w.params).In h₀ → Top p loose mean mg mb h₀ → cs.kind = .function → CodeHd base 34 30 → CodeHd base 41 37 →
 ∀ (p37 p30 : Array Value) (rest : List (Addr × Obj)), News h₀ L s.heap ((37, tabObj p37) :: (30, tabObj p30) :: rest) → (∀ q ∈ rest, q.1 ≠ 37) → (∀ q ∈ rest, q.1 ≠ 30) →
 TabSt 47 4 (Str.ofString "_digits2int.<locals>.inner") rest p37 → TabSt 32 4 (Str.ofString "_int2digits.<locals>.inner") rest p30 →
 dp + kd < recursionLimit → un + ku < cLine →
 (∀ (t : Nat) (t1 t2 : Tok) (h' : Heap) (tk' : Nat) (c1 c2 : Nat) (o1 o2 : Obj) (cv1 cv2 : Array Value) (tq1 tq2 : Tok), Fr h₀ L h' m →
   News h₀ L h' ((t, tupOf q r t1 t2) :: (c1, o1) :: (c2, o2) :: (37, tabObj #[rawInt 47, rawInt 4, .ref c1]) :: (30, tabObj #[rawInt 32, rawInt 4, .ref c2]) :: rest) →
   o1.data = .fields cv1 → cv1[1]? = some (.str (Str.ofString "_digits2int.<locals>.inner") tq1) → o2.data = .fields cv2 → cv2[1]? = some (.str (Str.ofString "_int2digits.<locals>.inner") tq2) →
   c1 ≠ 37 → c1 ≠ 30 → c2 ≠ 37 → c2 ≠ 30 → Q (.ref t) { s with heap := h', toks := tk' }) →
 wpAny (model prog w) (ktrTop dp un gd cn cs L ad ccd cl outer) (call (.ref f) [.int a ta, .int b tb]) Q E s
section
variable {prog : Program} {w : World} {p : Program} {loose : List Str} {mean : ExcName → Option Value} {mg mb : Str → Option Value}
theorem dmp_dm {a b : Int} (ha : 0 ≤ a) (hb : 0 < b) (hba : Builtin.Int.intBits a ≤ 2 ^ 13) (hbb : Builtin.Int.intBits b ≤ 4000) (hD : Builtin.Int.intBits a ≤ 60 * Builtin.Int.intBits b) : DmC prog w p loose mean mg mb 49 200 1600 a b (a / b) (a % b) := by
  intro ta tb dp un gd cn cs ad ccd cl outer A₀ base h₀ L m s Q E B F KX T hk C34 C41 p37 p30 rest N r37 r30 S37 S30 hdp hu ret
  refine dmp_spec dp un gd cn cs ad ccd cl outer A₀ base h₀ L m s Q E B F KX T hk C34 C41 p37 p30 rest N r37 r30 S37 S30 a b ta tb ha hb hba hbb ?_ hdp hu ret
  have := d4_bits1 hb
  refine Int.ediv_lt_of_lt_mul (by show (0 : Int) < ((Builtin.Int.intBits b : Nat) : Int); omega) ?_
  show ((Builtin.Int.intBits a : Nat) : Int) + ((Builtin.Int.intBits b : Nat) : Int) - 1 < 64 * ((Builtin.Int.intBits b : Nat) : Int)
  omega
end
theorem bitNot_is (a : Int) : Builtin.bitNot a = -a - 1 := by
  unfold Builtin.bitNot; omega
theorem idm_eq {a b : Int} (hb : 0 < b) : Builtin.bitNot (Builtin.bitNot a / b) = a / b ∧ b + Builtin.bitNot (Builtin.bitNot a % b) = a % b := by
  simp only [bitNot_is]
  have h1 := Int.mul_ediv_add_emod (-a - 1) b
  have h2 := Int.emod_nonneg (-a - 1) (b := b) (by omega)
  have h3 := Int.emod_lt_of_pos (-a - 1) hb
  generalize (-a - 1) / b = q at *
  generalize (-a - 1) % b = r at *
  have h4 : a = b * (-q - 1) + (b - r - 1) := by rw [Int.mul_sub, Int.mul_neg]; omega
  have := (Int.ediv_emod_unique (a := a) (r := b - r - 1) (q := -q - 1) hb).mpr ⟨by omega, by omega, by omega⟩
  constructor
  · exact this.1.symm
  · omega
theorem idm_eq2 {a b : Int} (hb : b < 0) : -a / -b = Int.fdiv a b ∧ -(-a % -b) = Int.fmod a b := by
  have h1 : Int.fdiv a b = -a / -b := by rw [← Int.neg_fdiv_neg, Int.fdiv_eq_ediv_of_nonneg _ (by omega)]
  refine ⟨h1.symm, ?_⟩
  rw [Int.fmod_def, h1, Int.emod_def, Int.neg_mul]; omega
theorem bitNot_bits {a : Int} (ha : a < 0) {k : Nat} (h : Builtin.Int.intBits a ≤ k) : Builtin.Int.intBits (Builtin.bitNot a) ≤ k := by
  rw [bitNot_is]; exact intBits_le_of_natAbs (by omega) h
theorem neg_bits (a : Int) : Builtin.Int.intBits (-a) = Builtin.Int.intBits a := by
  apply Nat.le_antisymm
  · exact intBits_neg_le (Nat.le_refl _)
  · have := intBits_neg_le (x := -a) (Nat.le_refl _)
    rw [Int.neg_neg] at this; exact this
local macro_rules | `(tactic| k_room) => `(tactic| ktr_room)
local macro_rules | `(tactic| k_mem) => `(tactic| assumption)
local macro_rules | `(tactic| ktr_rel) => `(tactic| (intro q hq; repeat (first | exact hq | refine List.Mem.tail _ ?_)))
local macro_rules | `(tactic| walk_at $s:str) => `(tactic| k_extra $s)
theorem idm_pos {prog : Program} {w : World} {p : Program} {loose : List Str} {mean : ExcName → Option Value} {mg mb : Str → Option Value} {a b : Int} (ha : 0 ≤ a) (hb : 0 < b) (hba : Builtin.Int.intBits a ≤ 2 ^ 13) (hbb : Builtin.Int.intBits b ≤ 4000) (hD : Builtin.Int.intBits a ≤ 60 * Builtin.Int.intBits b) :
  DmC prog w p loose mean mg mb 56 220 1700 a b (a / b) (a % b) := by
  have kf : PySem.Challenge.rw_wn0139_01.Holds → Mine.hd.heap_39 = Mine.hd.heap_39 := (by k_fill; exact fun _ => rfl)
  clear kf
  intro ta tb dp un gd cn cs ad ccd cl outer A₀ base h₀ L m s Q E B F KX T hk C34 C41 p37 p30 rest N r37 r30 S37 S30 hdp hu ret
  obtain ⟨ck, cnm, c3, c4, c5⟩ := cs
  dsimp only at hk
  subst hk
  k_with_none
  k_with "call ref" => refine Stop.on ?_
  have hb0 : b ≠ 0 := by omega
  w_strict (
    refine wpAny_call ?_
    k_dflt k_enter
    k_steps
    all_goals (try (exfalso; omega))
    refine Stop.off ?_
    k_dflt (refine' dmp_dm ha hb hba hbb hD _ _ _ _ _ _ _ _ _ _ _ _ _ _ _ _ _ _ _ ?B ?F ?X ?T ?hk C34 C41 p37 p30 rest ?N r37 r30 S37 S30 ?hdp ?hu ?_; (case B => k_asm); (case F => k_asm); (case X => k_asm); (case T => k_asm); (case hk => exact rfl); (case N => k_asm))
    case hdp => ktr_room
    case hu => ktr_units
    intro t5 t51 t52 h5 tk5 c1 c2 o1 o2 cv1 cv2 tq1 tq2 F5 N5 dc1 dv1 dc2 dv2 k1 k2 k3 k4
    (try dsimp only); (try k_fold)
    k_steps
    all_goals (try (exfalso; omega))
    rename_i kF kN kT kX
    exact ret t5 _ _ _ _ c1 c2 o1 o2 cv1 cv2 tq1 tq2 kF kN dc1 dv1 dc2 dv2 k1 k2 k3 k4)
theorem idm_nn {prog : Program} {w : World} {p : Program} {loose : List Str} {mean : ExcName → Option Value} {mg mb : Str → Option Value} {a b : Int} (ha : a < 0) (hb : 0 < b) (hba : Builtin.Int.intBits a ≤ 2 ^ 13) (hbb : Builtin.Int.intBits b ≤ 4000) (hD : Builtin.Int.intBits a ≤ 60 * Builtin.Int.intBits b) :
  DmC prog w p loose mean mg mb 56 240 1800 a b (a / b) (a % b) := by
  have kf : PySem.Challenge.rw_wn0139_01.Holds → Mine.hd.heap_39 = Mine.hd.heap_39 := (by k_fill; exact fun _ => rfl)
  clear kf
  intro ta tb dp un gd cn cs ad ccd cl outer A₀ base h₀ L m s Q E B F KX T hk C34 C41 p37 p30 rest N r37 r30 S37 S30 hdp hu ret
  obtain ⟨ck, cnm, c3, c4, c5⟩ := cs
  dsimp only at hk
  subst hk
  k_with_none
  k_with "call ref" => refine Stop.on ?_
  have hb0 : b ≠ 0 := by omega
  w_strict (
    refine wpAny_call ?_
    k_dflt k_enter
    k_steps
    all_goals (try (exfalso; omega))
    refine Stop.off ?_
    k_dflt (refine' idm_pos ?h0 hb ?h1 hbb ?h2 _ _ _ _ _ _ _ _ _ _ _ _ _ _ _ _ _ _ _ ?B ?F ?X ?T ?hk C34 C41 p37 p30 rest ?N r37 r30 S37 S30 ?hdp ?hu ?_; (case B => k_asm); (case F => k_asm); (case X => k_asm); (case T => k_asm); (case hk => exact rfl); (case N => k_asm))
    case h0 => rw [bitNot_is]; omega
    case h1 => exact bitNot_bits ha hba
    case h2 => exact bitNot_bits ha hD
    case hdp => ktr_room
    case hu => ktr_units
    intro t5 t51 t52 h5 tk5 c1 c2 o1 o2 cv1 cv2 tq1 tq2 F5 N5 dc1 dv1 dc2 dv2 k1 k2 k3 k4
    (try dsimp only); (try k_fold)
    k_steps
    rename_i D5 h6 F6 N6 l6 kF kN kT kX
    rw [(idm_eq hb).1, (idm_eq hb).2] at kN
    exact ret D5 _ _ _ _ c1 c2 o1 o2 cv1 cv2 tq1 tq2 kF (news_sub kN (List.forall_mem_cons.mpr ⟨by k_mem, by ktr_rel⟩)) dc1 dv1 dc2 dv2 k1 k2 k3 k4)
theorem idm_fl {prog : Program} {w : World} {p : Program} {loose : List Str} {mean : ExcName → Option Value} {mg mb : Str → Option Value} {a b : Int} (hb : 0 < b) (hba : Builtin.Int.intBits a ≤ 2 ^ 13) (hbb : Builtin.Int.intBits b ≤ 4000) (hD : Builtin.Int.intBits a ≤ 60 * Builtin.Int.intBits b) :
  DmC prog w p loose mean mg mb 56 240 1800 a b (a / b) (a % b) := by
  by_cases ha : 0 ≤ a
  · have h := idm_pos (prog := prog) (w := w) (p := p) (loose := loose) (mean := mean) (mg := mg) (mb := mb) ha hb hba hbb hD
    intro ta tb dp un gd cn cs ad ccd cl outer A₀ base h₀ L m s Q E B F KX T hk C34 C41 p37 p30 rest N r37 r30 S37 S30 hdp hu ret
    exact h ta tb dp un gd cn cs ad ccd cl outer A₀ base h₀ L m s Q E B F KX T hk C34 C41 p37 p30 rest N r37 r30 S37 S30 (by omega) (by omega) ret
  · exact idm_nn (by omega) hb hba hbb hD
theorem idm_neg {prog : Program} {w : World} {p : Program} {loose : List Str} {mean : ExcName → Option Value} {mg mb : Str → Option Value} {a b : Int} (hb : b < 0) (hba : Builtin.Int.intBits a ≤ 2 ^ 13) (hbb : Builtin.Int.intBits b ≤ 4000) (hD : Builtin.Int.intBits a ≤ 60 * Builtin.Int.intBits b) :
  DmC prog w p loose mean mg mb 56 260 1900 a b (Int.fdiv a b) (Int.fmod a b) := by
  have kf : PySem.Challenge.rw_wn0139_01.Holds → Mine.hd.heap_39 = Mine.hd.heap_39 := (by k_fill; exact fun _ => rfl)
  clear kf
  intro ta tb dp un gd cn cs ad ccd cl outer A₀ base h₀ L m s Q E B F KX T hk C34 C41 p37 p30 rest N r37 r30 S37 S30 hdp hu ret
  obtain ⟨ck, cnm, c3, c4, c5⟩ := cs
  dsimp only at hk
  subst hk
  k_with_none
  k_with "call ref" => refine Stop.on ?_
  have hb0 : b ≠ 0 := by omega
  w_strict (
    refine wpAny_call ?_
    k_dflt k_enter
    k_steps
    all_goals (try (exfalso; omega))
    refine Stop.off ?_
    k_dflt (refine' idm_fl ?h0 ?h1 ?h2 ?h3 _ _ _ _ _ _ _ _ _ _ _ _ _ _ _ _ _ _ _ ?B ?F ?X ?T ?hk C34 C41 p37 p30 rest ?N r37 r30 S37 S30 ?hdp ?hu ?_; (case B => k_asm); (case F => k_asm); (case X => k_asm); (case T => k_asm); (case hk => exact rfl); (case N => k_asm))
    case h0 => omega
    case h1 => rw [neg_bits]; exact hba
    case h2 => rw [neg_bits]; exact hbb
    case h3 => rw [neg_bits, neg_bits]; exact hD
    case hdp => ktr_room
    case hu => ktr_units
    intro t5 t51 t52 h5 tk5 c1 c2 o1 o2 cv1 cv2 tq1 tq2 F5 N5 dc1 dv1 dc2 dv2 k1 k2 k3 k4
    (try dsimp only); (try k_fold)
    k_steps
    rename_i D5 h6 F6 N6 l6 kF kN kT kX
    rw [(idm_eq2 hb).1, (idm_eq2 hb).2] at kN
    exact ret D5 _ _ _ _ c1 c2 o1 o2 cv1 cv2 tq1 tq2 kF (news_sub kN (List.forall_mem_cons.mpr ⟨by k_mem, by ktr_rel⟩)) dc1 dv1 dc2 dv2 k1 k2 k3 k4)
theorem idm {prog : Program} {w : World} {p : Program} {loose : List Str} {mean : ExcName → Option Value} {mg mb : Str → Option Value} {a b : Int} (hb : b ≠ 0) (hba : Builtin.Int.intBits a ≤ 2 ^ 13) (hbb : Builtin.Int.intBits b ≤ 4000) (hD : Builtin.Int.intBits a ≤ 60 * Builtin.Int.intBits b) :
  DmC prog w p loose mean mg mb 56 260 1900 a b (Int.fdiv a b) (Int.fmod a b) := by
  by_cases h0 : 0 < b
  · have h := idm_fl (prog := prog) (w := w) (p := p) (loose := loose) (mean := mean) (mg := mg) (mb := mb) h0 hba hbb hD
    rw [Int.fdiv_eq_ediv_of_nonneg _ (Int.le_of_lt h0), Int.fmod_eq_emod_of_nonneg _ (Int.le_of_lt h0)]
    intro ta tb dp un gd cn cs ad ccd cl outer A₀ base h₀ L m s Q E B F KX T hk C34 C41 p37 p30 rest N r37 r30 S37 S30 hdp hu ret
    exact h ta tb dp un gd cn cs ad ccd cl outer A₀ base h₀ L m s Q E B F KX T hk C34 C41 p37 p30 rest N r37 r30 S37 S30 (by omega) (by omega) ret
  · exact idm_neg (by omega) hba hbb hD
end Mine
end

section
/- the product of two lists of coefficients, as _law_times makes it: plain -/
namespace Mine
noncomputable def addAt (p : List Int) (k : Nat) (v : Int) : List Int := p.set k (p.getD k 0 + v)
noncomputable def tmIn (as bs : List Int) (i : Nat) (p : List Int) : Nat → List Int
  | 0 => p
  | j + 1 => addAt (tmIn as bs i p j) (i + j) (as.getD i 0 * bs.getD j 0)
noncomputable def tmOut (as bs : List Int) : Nat → List Int
  | 0 => List.replicate (as.length + bs.length - 1) 0
  | i + 1 => tmIn as bs i (tmOut as bs i) bs.length
noncomputable def times (as bs : List Int) : List Int := tmOut as bs as.length
theorem addAt_len (p : List Int) (k : Nat) (v : Int) : (addAt p k v).length = p.length := List.length_set ..
theorem tmIn_len (as bs : List Int) (i : Nat) (p : List Int) : ∀ j, (tmIn as bs i p j).length = p.length
  | 0 => rfl
  | j + 1 => by rw [tmIn, addAt_len, tmIn_len as bs i p j]
theorem tmOut_len (as bs : List Int) : ∀ i, (tmOut as bs i).length = as.length + bs.length - 1
  | 0 => List.length_replicate ..
  | i + 1 => by rw [tmOut, tmIn_len, tmOut_len as bs i]
theorem times_len (as bs : List Int) : (times as bs).length = as.length + bs.length - 1 := tmOut_len as bs _
theorem ev_addAt (X : Int) : ∀ (p : List Int) (k : Nat) (v : Int), k < p.length → ev X (addAt p k v) = ev X p + v * X ^ k
  | [], _, _, h => absurd h (Nat.not_lt_zero _)
  | d :: ds, 0, v, _ => by simp [addAt, ev]; omega
  | d :: ds, k + 1, v, h => by
    have ih := ev_addAt X ds k v (Nat.lt_of_succ_lt_succ h)
    have e : addAt (d :: ds) (k + 1) v = d :: addAt ds k v := rfl
    rw [e, ev, ev, ih, Int.pow_succ]; grind
theorem ev_repl (X : Int) : ∀ n, ev X (List.replicate n 0) = 0
  | 0 => rfl
  | n + 1 => by rw [List.replicate_succ, ev, ev_repl X n]; simp
theorem ev_snoc (X : Int) (as : List Int) (a : Int) : ev X (as ++ [a]) = ev X as + a * X ^ as.length := by
  rw [ev_append]; simp [ev, Int.mul_comm]
theorem take_snoc (as : List Int) (i : Nat) (h : i < as.length) : as.take (i + 1) = as.take i ++ [as.getD i 0] := by
  rw [List.take_succ]; simp [h]
theorem ev_tmIn (X : Int) {as bs : List Int} {i : Nat} {p : List Int} (hp : i + bs.length ≤ p.length) : ∀ j, j ≤ bs.length → ev X (tmIn as bs i p j) = ev X p + as.getD i 0 * X ^ i * ev X (bs.take j)
  | 0, _ => by simp [tmIn, ev]
  | j + 1, h => by
    rw [tmIn, ev_addAt X _ _ _ (by rw [tmIn_len]; omega), ev_tmIn X hp j (by omega), take_snoc bs j h, ev_snoc, Int.pow_add]
    have : (bs.take j).length = j := by rw [List.length_take]; omega
    rw [this]; grind
theorem ev_tmOut (X : Int) {as bs : List Int} (hb : 1 ≤ bs.length) : ∀ i, i ≤ as.length → ev X (tmOut as bs i) = ev X (as.take i) * ev X bs
  | 0, _ => by simp [tmOut, ev, ev_repl]
  | i + 1, h => by
    rw [tmOut, ev_tmIn X (by rw [tmOut_len]; omega) _ (Nat.le_refl _), ev_tmOut X hb i (by omega), take_snoc as i h, ev_snoc, List.take_length]
    have : (as.take i).length = i := by rw [List.length_take]; omega
    rw [this]; grind
theorem ev_times (X : Int) {as bs : List Int} (hb : 1 ≤ bs.length) : ev X (times as bs) = ev X as * ev X bs := by
  rw [times, ev_tmOut X hb _ (Nat.le_refl _), List.take_length]
theorem addAt_off (p : List Int) (k : Nat) (v : Int) (x : Nat) (h : x ≠ k) : (addAt p k v).getD x 0 = p.getD x 0 := by
  unfold addAt
  simp [List.getD_eq_getElem?_getD, List.getElem?_set, Ne.symm h]
theorem addAt_on (p : List Int) (k : Nat) (v : Int) (h : k < p.length) : (addAt p k v).getD k 0 = p.getD k 0 + v := by
  unfold addAt
  simp [List.getD_eq_getElem?_getD, List.getElem?_set, h]
theorem tmIn_off {as bs : List Int} {i : Nat} {p : List Int} {x : Nat} : ∀ j, i + j ≤ x → (tmIn as bs i p j).getD x 0 = p.getD x 0
  | 0, _ => rfl
  | j + 1, h => by rw [tmIn, addAt_off _ _ _ _ (by omega), tmIn_off j (by omega)]
theorem tmOut_off {as bs : List Int} {x : Nat} (hb : 1 ≤ bs.length) : ∀ i, i + bs.length - 1 ≤ x → (tmOut as bs i).getD x 0 = 0
  | 0, _ => by rw [tmOut]; simp [List.getD_eq_getElem?_getD, List.getElem?_replicate]; split <;> rfl
  | i + 1, h => by rw [tmOut, tmIn_off _ (by omega), tmOut_off hb i (by omega)]
theorem times_top {as bs : List Int} (ha : 1 ≤ as.length) (hb : 1 ≤ bs.length) : (times as bs).getD (as.length + bs.length - 2) 0 = as.getD (as.length - 1) 0 * bs.getD (bs.length - 1) 0 := by
  obtain ⟨i, hi⟩ : ∃ i, as.length = i + 1 := ⟨as.length - 1, by omega⟩
  obtain ⟨j, hj⟩ : ∃ j, bs.length = j + 1 := ⟨bs.length - 1, by omega⟩
  have e : as.length + bs.length - 2 = i + j := by omega
  rw [times, hi, tmOut, hj, tmIn]
  have e' : i + 1 + (j + 1) - 2 = i + j := by omega
  rw [e', addAt_on _ _ _ (by rw [tmIn_len, tmOut_len]; omega), tmIn_off j (Nat.le_refl _), tmOut_off hb i (by omega)]
  simp
end Mine
end

section
open PySem PySem.W PySem.Spec PySem.Calls PyProof.Rows
set_option maxRecDepth 100000
set_option maxHeartbeats 0
namespace Mine
structure D6S where
  vs : List Value
  e : Nat
  ds : List Int
section
local macro_rules | `(tactic| k_room) => `(tactic| ktr_room)
local macro_rules | `(tactic| k_all) => `(tactic| first | with_reducible assumption | exact ne_of_l1 (by assumption) (by omega))
local macro_rules | `(tactic| k_mem) => `(tactic| assumption)
local macro_rules | `(tactic| ktr_rel) => `(tactic| (intro q hq; repeat (first | exact hq | refine List.Mem.tail _ ?_)))
local macro_rules | `(tactic| walk_at $s:str) => `(tactic| k_extra $s)
theorem d6_mul {as bs : List Int} (ba : ∀ x ∈ as, Builtin.Int.intBits x ≤ 2 ^ 20) (bb : ∀ x ∈ bs, Builtin.Int.intBits x ≤ 2 ^ 20) {x y i j : Int} (hx : x = as.getD i.toNat 0) (hy : y = bs.getD j.toNat 0) (hi : i.toNat < as.length) (hj : j.toNat < bs.length) : IntMulOk x y := by
  refine IntMulOk.of_le (m := 2 ^ 20) (n := 2 ^ 20) ?_ ?_ (by decide)
  · rw [hx]; apply ba; simp [List.getD_eq_getElem?_getD, hi]
  · rw [hy]; apply bb; simp [List.getD_eq_getElem?_getD, hj]
theorem tim_spec {prog : Program} {w : World} {p : Program} {loose : List Str} {mean : ExcName → Option Value} {mg mb : Str → Option Value}
 (dp un : Nat) (gd : Option (List Code)) (cn : Str) (cs : Scope) (ad : Addr) (ccd : Value) (cl : List (Str × Addr)) (outer : List Env) (A₀ : Around) (base h₀ : Heap) (L : Addr) (m : Str → Option Value) (s : Shared) (Q E : Value → Shared → Prop)
 (B : Below A₀ base outer h₀) (F : Fr h₀ L s.heap m) (KX : (hd.heap_39 w.params).In h₀) (T : Top p loose mean mg mb h₀) (hk : cs.kind = .function)
 (news : List (Addr × Obj)) (N : News h₀ L s.heap news)
 (l1 l2 : Nat) (vs1 vs2 : List Value) (e1 e2 : Nat) (as bs : List Int) (m1 : (l1, PySem.W.listOf vs1.toArray e1) ∈ news) (m2 : (l2, PySem.W.listOf vs2.toArray e2) ∈ news) (i1 : IntsAre vs1 as) (i2 : IntsAre vs2 bs)
 (ha : 1 ≤ as.length) (hb : 1 ≤ bs.length) (ha2 : as.length ≤ 16) (hb2 : bs.length ≤ 16) (ba : ∀ x ∈ as, Builtin.Int.intBits x ≤ 2 ^ 20) (bb : ∀ x ∈ bs, Builtin.Int.intBits x ≤ 2 ^ 20)
 (hdp : dp + 10 < recursionLimit) (hu : un + 80 < cLine)
 (hQ : ∀ (l : Nat) (vs : List Value) (e : Nat) (h' : Heap) (tk' : Nat), Fr h₀ L h' m → News h₀ L h' ((l, PySem.W.listOf vs.toArray e) :: news) → (∀ q ∈ news, q.1 < l) → IntsAre vs (times as bs) → Q (.ref l) { s with heap := h', toks := tk' })  :
 wpAny (model prog w) (ktrTop dp un gd cn cs L ad ccd cl outer) (call (.ref 63) [.ref l1, .ref l2]) Q E s := by
  have kf : PySem.Challenge.rw_wn0139_01.Holds → Mine.hd.heap_39 = Mine.hd.heap_39 := (by k_fill; exact fun _ => rfl)
  clear kf
  obtain ⟨ck, cnm, c3, c4, c5⟩ := cs
  dsimp only at hk
  subst hk
  k_with_none
  k_with "pyIter ref" => refine Stop.on ?_
  k_with "call ref" => refine Stop.on ?_
  k_with "call builtin:len" => (k_here; k_dflt (refine' len_op (by k_asm) (by k_mem) (by k_extra "ints") (by k_extra "len") ?_))
  k_with "subscriptTail" => (k_here; (with_reducible show wpAny _ _ (subscriptTail _ _ (Value.ref _) (Value.int _ _)) _ _ _); k_dflt (refine' item_op (by k_asm) (by k_mem) (by k_extra "ints") (by omega) (by omega) (by omega) ?_ (by with_unfolding_all rfl)); intro _ _ _)
  k_with "getItem ref int" => (k_here; k_dflt (refine' ksa_get (by k_asm) (by k_mem) (by k_extra "ints") (by omega) (by omega) (by omega) ?_); intro _)
  k_with "setItem ref int" => (k_here; (with_reducible show wpAny _ _ (setItem (Value.ref _) (Value.int _ _) (Value.int _ _)) _ _ _); k_dflt (refine' ksa_set (by k_asm) (by k_asm) (by k_upd) (by k_extra "ints") (by omega) (by omega) (by omega) ?_); intro _ _ _ _ _ _)
  k_with "binaryOp Mult int int" => (k_here; refine mul_op (by k_extra "mul") ?_; intro _ _ _)
  k_with "binaryOp Mult ref int" => (k_here; k_dflt (refine' rep_op (by k_asm) (by k_asm) (by k_mem) (by k_extra "rep0") (by k_extra "rep1") ?_); intro _ _ _ _ _ g9 _; (try k_lt g9); (try (revert g9; intro _)))
  k_with "ints" => first | exact i1 | exact i2
  k_with "len" => omega
  k_with "rep0" => omega
  k_with "rep1" => omega
  w_strict (
    refine wpAny_call ?_
    k_dflt k_enter
    k_steps
    try (rename (List.length _ = List.length (List.replicate _ _)) => e9; clear e9)
    rename_i la ha' lb l9 ws9 h9 i9 g9 hx Fx Nx hy tky t1 u1 v1 R9 F9 N9 a9
    have hnews : ∀ q ∈ news, q.1 < l9 := ktn_ltOf g9.2
    refine Stop.off ?_
    k_dflt (
     refine' rng_ints (σ := D6S) (n := as.length) (fun c => (l9, PySem.W.listOf c.vs.toArray c.e) :: news) (fun _ => []) [Str.ofString "j"]
      (fun i c => c.ds = tmOut as bs i ∧ IntsAre c.vs c.ds) ⟨ws9, 0, tmOut as bs 0⟩ ?hh R9 ?sm ?rs F9 ?N ?hadr ?hk ?hp ?turn ?done)
    case hh => rfl
    case sm => exact small_one (by omega) (by omega) (by omega) (by omega)
    case rs => exact rangeSize_nat _ _
    case N => exact news_sub N9 (List.forall_mem_cons.mpr ⟨by k_mem, by ktr_rel⟩)
    case hadr => intro c; rfl
    case hk => exact List.forall_mem_nil _
    case hp =>
      have z : ((as.length : Int) + (bs.length : Int) - 1).toNat = as.length + bs.length - 1 := by omega
      rw [z] at i9
      exact ⟨rfl, i9⟩
    case turn =>
      intro c i k t u I it h tk hi hki hP hI F2 N2
      k_steps
      rename_i Fa Na hy2 tky2 t12 u12 v12 R92 F92 N92 a92
      have hIall : ∀ q ∈ news, q.1 < I := fun q hq => hI q (.tail _ hq)
      have hIl : l9 < I := hI _ (.head _)
      refine Stop.off ?_
      k_dflt (
       refine' rng_ints (σ := D6S) (n := bs.length) (fun c => (I, it) :: (l9, PySem.W.listOf c.vs.toArray c.e) :: news) (fun _ => []) []
        (fun j d => d.ds = tmIn as bs i c.ds j ∧ IntsAre d.vs d.ds) c ?hh2 R92 ?sm2 ?rs2 F92 ?N2 ?hadr2 ?hk2 ?hp2 ?turn2 ?done2)
      case hh2 => rfl
      case sm2 => exact small_one (by omega) (by omega) (by omega) (by omega)
      case rs2 => exact rangeSize_nat _ _
      case N2 => exact N92
      case hadr2 => intro c; rfl
      case hk2 => exact List.forall_mem_nil _
      case hp2 => exact ⟨rfl, hP.2⟩
      case turn2 =>
        intro d j kj tj u2 J itj h2 tk2 hj hkj hPj hJ F3 N3
        have hlen : d.ds.length = as.length + bs.length - 1 := by rw [hPj.1, tmIn_len, hP.1, tmOut_len]
        have hki' : k = (i : Int) := by omega
        have hkj' : kj = (j : Int) := by omega
        subst hki' hkj'
        k_with "ints" => first | exact i1 | exact i2 | exact hPj.2
        k_with "mul" => exact d6_mul ba bb (by assumption) (by assumption) (by omega) (by omega)
        have hJl : l9 < J := hJ _ (.tail _ (.head _))
        k_steps
        have U : ∀ o', Upd l9 (PySem.W.listOf d.vs.toArray d.e) o' ((J, itj) :: (I, it) :: (l9, PySem.W.listOf d.vs.toArray d.e) :: news) ((J, itj) :: (I, it) :: (l9, o') :: news) :=
          fun o' => .tail (Nat.ne_of_gt hJl) (.tail (Nat.ne_of_gt hIl) (.head fun q hq => Nat.ne_of_lt (hnews q hq)))
        k_dflt (refine' ksa_set ?F8 ?N8 (U _) hPj.2 ?b8 ?c8 ?d8 ?_; (case F8 => k_asm); (case N8 => k_asm); (case b8 => omega); (case c8 => omega); (case d8 => omega))
        intro h8 F8 N8 i8 lx8 sx8
        k_steps
        have z : ((i : Int) + (j : Int)).toNat = i + j := by omega
        have e1 : ((i : Int)).toNat = i := by omega
        have e2 : ((j : Int)).toNat = j := by omega
        refine lp_end ⟨_, d.e, tmIn as bs i c.ds (j + 1)⟩ F8 N8 (fun _ h => h) (List.forall_mem_nil _) ?hr6 ?hp6
        case hp6 =>
          refine ⟨rfl, ?_⟩
          show IntsAre _ (tmIn as bs i c.ds (j + 1))
          rw [tmIn, addAt, ← hPj.1]
          subst_vars
          rw [z, e1, e2] at i8
          exact i8
        case hr6 =>
          intro z z1 z2 z3
          simp only [List.forall_mem_cons, List.not_mem_nil, false_implies, implies_true, and_true, ne_eq] at z2
          simp only [List.contains_cons, List.contains_nil, Bool.or_false, Bool.or_eq_false_iff, beq_eq_false_iff_ne, ne_eq] at z3
          simp [kstB, z1]
      case done2 =>
        intro d u2 h2 tk2 hPj F3 N3
        k_steps
        refine lp_end d F3 N3 (fun _ h => h) (List.forall_mem_nil _) ?hr5 ?hp5
        case hp5 => exact ⟨by rw [tmOut, hPj.1, hP.1], hPj.2⟩
        case hr5 =>
          intro z z1 z2 z3
          simp only [List.forall_mem_cons, List.not_mem_nil, false_implies, implies_true, and_true, ne_eq] at z2
          simp only [List.contains_cons, List.contains_nil, Bool.or_false, Bool.or_eq_false_iff, beq_eq_false_iff_ne, ne_eq] at z3
          simp [kstB, z1, z2, z3]
    case done =>
      intro c u h tk hP F2 N2
      k_steps
      rename_i kF kN kT kX
      exact hQ l9 c.vs c.e _ _ kF kN hnews (by have z := hP.2; rw [hP.1] at z; exact z))
end
end Mine
end

section
/- one row of Routh's table out of one division: plain -/
namespace Mine
open PySem PyProof.Rows
noncomputable def top (ds : List Int) : Int := ds.getD (ds.length - 1) 0
noncomputable def sideOf (b : Int) : Int := if 0 < b then 1 else -1
noncomputable def pad (as bs : List Int) : List Int := List.replicate (as.length - bs.length) 0 ++ bs
noncomputable def comb (c d : Int) : List Int → List Int → List Int
  | a :: as, b :: bs => (c * a - d * b) :: comb c d as bs
  | _, _ => []
noncomputable def nxt (as bs : List Int) : List Int := (comb ((top bs).natAbs : Int) (sideOf (top bs) * top as) as (pad as bs)).dropLast
theorem comb_len (c d : Int) : ∀ (as bs : List Int), as.length = bs.length → (comb c d as bs).length = as.length
  | [], [], _ => rfl
  | _ :: as, _ :: bs, h => by rw [comb, List.length_cons, comb_len c d as bs (by simpa using h), List.length_cons]
theorem comb_ev (c d X : Int) : ∀ (as bs : List Int), as.length = bs.length → ev X (comb c d as bs) = c * ev X as - d * ev X bs
  | [], [], _ => by simp [comb, ev]
  | a :: as, b :: bs, h => by rw [comb, ev, ev, ev, comb_ev c d X as bs (by simpa using h)]; grind
theorem comb_get (c d : Int) : ∀ (as bs : List Int), as.length = bs.length → ∀ k, (comb c d as bs).getD k 0 = c * as.getD k 0 - d * bs.getD k 0
  | [], [], _, k => by simp [comb]
  | a :: as, b :: bs, h, 0 => by simp [comb]
  | a :: as, b :: bs, h, k + 1 => by
    have := comb_get c d as bs (by simpa using h) k
    simpa [comb] using this
theorem comb_mem {c d B : Int} : ∀ (as bs : List Int), (∀ x ∈ as, ∀ y ∈ bs, (c * x - d * y).natAbs ≤ B) → ∀ z ∈ comb c d as bs, (z.natAbs : Int) ≤ B
  | [], [], _, z, h => nomatch h
  | [], _ :: _, _, z, h => nomatch h
  | _ :: _, [], _, z, h => nomatch h
  | a :: as, b :: bs, hb, z, h => by
    rcases List.mem_cons.mp h with rfl | h
    · exact hb a (.head _) b (.head _)
    · exact comb_mem as bs (fun x hx y hy => hb x (.tail _ hx) y (.tail _ hy)) z h
theorem pad_len {as bs : List Int} (h : bs.length ≤ as.length) : (pad as bs).length = as.length := by
  unfold pad; rw [List.length_append, List.length_replicate]; omega
theorem last_split : ∀ (ds : List Int), ds ≠ [] → ds = ds.dropLast ++ [top ds] := by
  intro ds h
  have h1 := List.dropLast_concat_getLast h
  have h2 : ds.getLast h = top ds := by
    rw [List.getLast_eq_getElem]
    unfold top
    have : ds.length - 1 < ds.length := by have := List.length_pos_iff.mpr h; omega
    simp [List.getD_eq_getElem?_getD, this]
  rw [← h2]; exact h1.symm
theorem top_nil : top [] = 0 := rfl
theorem top_pad {as bs : List Int} (hb : bs ≠ []) : top (pad as bs) = top bs := by
  unfold pad top
  have := List.length_pos_iff.mpr hb
  rw [List.getD_eq_getElem?_getD, List.getD_eq_getElem?_getD, List.length_append, List.getElem?_append_right (by omega)]
  congr 2; omega
theorem nxt_len {as bs : List Int} (h : bs.length ≤ as.length) : (nxt as bs).length = as.length - 1 := by
  unfold nxt; rw [List.length_dropLast, comb_len _ _ _ _ (pad_len h).symm]
theorem side_abs {t : Int} : sideOf t * t = (t.natAbs : Int) := by
  unfold sideOf; split <;> omega
theorem side_mul {t : Int} (x : Int) : sideOf t * x = if 0 < t then x else -x := by
  unfold sideOf; split <;> omega
theorem nxt_ev {as bs : List Int} (X : Int) (h : bs.length ≤ as.length) (hb : bs ≠ []) : ev X (nxt as bs) = ((top bs).natAbs : Int) * ev X as - sideOf (top bs) * top as * ev X (pad as bs) := by
  have ha : as ≠ [] := by intro e; rw [e] at h; exact hb (List.length_eq_zero_iff.mp (Nat.le_zero.mp h))
  rw [← comb_ev _ _ X _ _ (pad_len h).symm]
  generalize hz : comb ((top bs).natAbs : Int) (sideOf (top bs) * top as) as (pad as bs) = z
  have hl : z.length = as.length := by rw [← hz, comb_len _ _ _ _ (pad_len h).symm]
  have hzn : z ≠ [] := by intro e; rw [e] at hl; exact ha (List.length_eq_zero_iff.mp hl.symm)
  have ht : top z = 0 := by
    unfold top
    rw [hl, ← hz, comb_get _ _ _ _ (pad_len h).symm]
    have e1 : as.getD (as.length - 1) 0 = top as := rfl
    have e2 : (pad as bs).getD (as.length - 1) 0 = top bs := by rw [← top_pad (as := as) hb]; unfold top; rw [pad_len h]
    rw [e1, e2, Int.mul_assoc, Int.mul_comm (top as), ← Int.mul_assoc, side_abs]; omega
  have : nxt as bs = z.dropLast := by unfold nxt; rw [hz]
  rw [this]
  conv => rhs; rw [last_split z hzn, ev_append, ht]
  simp [ev]
/-- small digits, a small number -/
theorem ev_small {X : Int} (hX : 0 < X) : ∀ (ds : List Int), (∀ x ∈ ds, 15 * (x.natAbs : Int) < X) → 15 * ((ev X ds).natAbs : Int) < X ^ ds.length
  | [], _ => by simp [ev]
  | d :: ds, h => by
    have h1 := h d (.head _)
    have h2 := ev_small hX ds fun x hx => h x (.tail _ hx)
    rw [ev, List.length_cons, Int.pow_succ]
    have h3 : X * (15 * ((ev X ds).natAbs : Int)) ≤ X * (X ^ ds.length - 1) := Int.mul_le_mul_of_nonneg_left (by omega) (Int.le_of_lt hX)
    have h4 : ((d + X * ev X ds).natAbs : Int) ≤ (d.natAbs : Int) + X * ((ev X ds).natAbs : Int) := by
      have e : (X * ev X ds).natAbs = X.natAbs * (ev X ds).natAbs := Int.natAbs_mul ..
      have e2 : ((X * ev X ds).natAbs : Int) = X * ((ev X ds).natAbs : Int) := by
        rw [e, Int.natCast_mul]
        congr 1; omega
      omega
    rw [Int.mul_sub] at h3
    rw [Int.mul_comm (X ^ ds.length)]
    have e5 : X * (15 * ((ev X ds).natAbs : Int)) = 15 * (X * ((ev X ds).natAbs : Int)) := by grind
    omega
theorem pow_pos' {X : Int} (hX : 0 < X) (n : Nat) : 1 ≤ X ^ n := Int.pow_pos hX
structure RowIn (X : Int) (as bs : List Int) : Prop where
  X0 : 0 < X
  len : bs.length ≤ as.length
  t0 : top bs ≠ 0
  sb : ∀ x ∈ bs, 15 * (x.natAbs : Int) < X
  sn : ∀ x ∈ nxt as bs, 15 * (x.natAbs : Int) < X
theorem top_ne {bs : List Int} (h : top bs ≠ 0) : bs ≠ [] := by rintro rfl; exact h rfl
theorem low_of {X : Int} {as bs : List Int} (R : RowIn X as bs) : 14 * X ^ (as.length - 1) < 15 * (sideOf (top bs) * ev X (pad as bs)) := by
  have hb := top_ne R.t0
  have hne : pad as bs ≠ [] := by intro e; have := congrArg List.length e; rw [pad_len R.len] at this; have h2 := R.len; simp at this; rw [this] at h2; exact hb (List.length_eq_zero_iff.mp (by simpa using h2))
  have e := last_split _ hne
  have hl : (pad as bs).dropLast.length = as.length - 1 := by rw [List.length_dropLast, pad_len R.len]
  have hs := ev_small R.X0 (pad as bs).dropLast fun x hx => by
    have hx' := (List.dropLast_sublist _).subset hx
    unfold pad at hx'
    rcases List.mem_append.mp hx' with h | h
    · rw [(List.mem_replicate.mp h).2]; simpa using R.X0
    · exact R.sb x h
  rw [e, ev_append, top_pad hb, hl]
  rw [hl] at hs
  have hp := pow_pos' R.X0 (as.length - 1)
  generalize X ^ (as.length - 1) = P at *
  generalize ev X (pad as bs).dropLast = z at *
  simp only [ev, Int.mul_zero, Int.add_zero]
  rw [Int.mul_add, side_mul]
  have e3 : sideOf (top bs) * (P * top bs) = P * ((top bs).natAbs : Int) := by rw [← side_abs (t := top bs)]; grind
  rw [e3]
  have h4 : P * 1 ≤ P * ((top bs).natAbs : Int) := Int.mul_le_mul_of_nonneg_left (by have := R.t0; omega) (by omega)
  split <;> omega
theorem dcore {L r e d P : Int} (hL : 14 * P < 15 * L) (hP : 0 < P) (h0 : 0 ≤ r) (h1 : r < L) (h3 : 15 * (e.natAbs : Int) < P) (h5 : e - r = d * L) : (d = 0 ∧ 2 * r ≤ L) ∨ (d = -1 ∧ L < 2 * r) := by
  have hLp : 0 ≤ L := by clear h5 h3 h0 h1; omega
  have e1 : e < L ∧ -L < e := by clear h5 h0 h1; omega
  clear hLp
  have d1 : d < 1 := Int.lt_of_not_ge fun h => by
    have := Int.mul_le_mul_of_nonneg_right h (c := L) (by clear h5 h3 e1 h; omega)
    rw [← h5, Int.one_mul] at this
    clear h5 h3 hL hP h; omega
  have d2 : -2 < d := Int.lt_of_not_ge fun h => by
    have := Int.mul_le_mul_of_nonneg_right h (c := L) (by clear h5 h3 e1 h d1; omega)
    rw [← h5] at this
    clear h5 h3 hL hP h d1; omega
  have d3 : d = 0 ∨ d = -1 := by clear h5 h3 hL hP h0 h1 e1; omega
  clear d1 d2
  rcases d3 with rfl | rfl
  · left
    rw [Int.zero_mul] at h5
    refine ⟨rfl, ?_⟩
    clear e1; omega
  · right
    rw [Int.neg_mul, Int.one_mul] at h5
    refine ⟨rfl, ?_⟩
    clear e1; omega
theorem side_ne (t : Int) : sideOf t ≠ 0 := by unfold sideOf; split <;> decide
theorem side_nat (t x : Int) : (sideOf t * x).natAbs = x.natAbs := by
  rw [side_mul]; split
  · rfl
  · exact Int.natAbs_neg x
theorem div_row {X : Int} {as bs : List Int} (R : RowIn X as bs) {U Lw q r : Int} (hU : U = ((top bs).natAbs : Int) * ev X as) (hL : Lw = ev X (pad as bs)) (hq : q = Int.fdiv U Lw) (hr : r = Int.fmod U Lw) :
    Lw ≠ 0 ∧ 0 ≤ r * sideOf (top bs) ∧ r * sideOf (top bs) < (Lw.natAbs : Int) ∧
    ((2 * (r.natAbs : Int) ≤ (Lw.natAbs : Int) ∧ q = sideOf (top bs) * top as ∧ r = ev X (nxt as bs)) ∨ ((Lw.natAbs : Int) < 2 * (r.natAbs : Int) ∧ q + 1 = sideOf (top bs) * top as ∧ r - Lw = ev X (nxt as bs))) := by
  have hb := top_ne R.t0
  have h1 := low_of R
  have h2 := nxt_ev (as := as) (bs := bs) X R.len hb
  have h3 := ev_small R.X0 _ R.sn
  rw [nxt_len R.len] at h3
  have hp := pow_pos' R.X0 (as.length - 1)
  rw [← hU, ← hL] at h2
  rw [← hL] at h1
  have hq2 : U = Lw * q + r := by rw [hq, hr]; have := Int.mul_fdiv_add_fmod U Lw; omega
  generalize X ^ (as.length - 1) = P at *
  generalize ev X (nxt as bs) = e at *
  generalize hd : q - sideOf (top bs) * top as = d
  have h5 : e - r = d * Lw := by rw [← hd, h2, hq2]; grind
  have hL0 : Lw ≠ 0 := by rintro rfl; rw [Int.mul_zero] at h1; omega
  have hrs : 0 ≤ r * sideOf (top bs) ∧ r * sideOf (top bs) < (Lw.natAbs : Int) ∧ sideOf (top bs) * Lw = (Lw.natAbs : Int) := by
    rw [Int.mul_comm r, side_mul, side_mul]
    rw [side_mul] at h1
    split at h1
    · rename_i h; rw [if_pos h, if_pos h]
      have z1 := Int.fmod_nonneg_of_pos U (b := Lw) (by omega)
      have z2 := Int.fmod_lt_of_pos U (b := Lw) (by omega)
      rw [← hr] at z1 z2
      omega
    · rename_i h; rw [if_neg h, if_neg h]
      have z0 : Int.fmod U Lw = -Int.fmod (-U) (-Lw) := by rw [Int.neg_fmod_neg]; omega
      have z1 := Int.fmod_nonneg_of_pos (-U) (b := -Lw) (by omega)
      have z2 := Int.fmod_lt_of_pos (-U) (b := -Lw) (by omega)
      rw [← hr] at z0
      omega
  refine ⟨hL0, hrs.1, hrs.2.1, ?_⟩
  obtain ⟨h6, h7, h8⟩ := hrs
  have hσ := side_ne (top bs)
  have he := side_nat (top bs) e
  have hra : (r.natAbs : Int) = r * sideOf (top bs) := by
    have := side_nat (top bs) r
    rw [← this, Int.mul_comm r] 
    rw [Int.mul_comm r] at h6
    exact Int.natAbs_of_nonneg h6
  rw [h8] at h1
  have h5' : sideOf (top bs) * e - r * sideOf (top bs) = d * (Lw.natAbs : Int) := by
    rw [← h8, Int.mul_comm r, ← Int.mul_sub, h5, Int.mul_left_comm]
  rw [← he] at h3
  rcases dcore h1 hp h6 h7 h3 h5' with ⟨d0, hd0⟩ | ⟨d0, hd0⟩
  · left
    rw [hra]
    refine ⟨hd0, Int.sub_eq_zero.mp (hd.trans d0), ?_⟩
    rw [d0, Int.zero_mul] at h5
    exact (Int.sub_eq_zero.mp h5).symm
  · right
    rw [hra]
    refine ⟨hd0, ?_, ?_⟩
    · rw [d0] at hd; clear h1 h3 h5 h5' he h6 h7 h8 hra; omega
    · rw [d0, Int.neg_mul, Int.one_mul] at h5; clear h1 h3 h5' he h6 h7 h8 hra hd; omega
end Mine
end

section
/- what stands between two turns of Routh's table: plain -/
namespace Mine
open PySem PyProof.Rows
theorem dg_ev {X : Int} (hX : 0 < X) : ∀ (ds : List Int), (∀ d ∈ ds, 0 ≤ d ∧ d < X) → dg X ds.length (ev X ds) = ds
  | [], _ => rfl
  | d :: ds, h => by
    have h1 := h d (.head _)
    rw [List.length_cons, dg, ev]
    have e1 : (d + X * ev X ds) % X = d := by rw [Int.add_mul_emod_self_left]; exact Int.emod_eq_of_lt h1.1 h1.2
    have e2 : (d + X * ev X ds) / X = ev X ds := by rw [Int.add_mul_ediv_left _ _ (by omega), Int.ediv_eq_zero_of_lt h1.1 h1.2]; omega
    rw [e1, e2, dg_ev hX ds fun x hx => h x (.tail _ hx)]
theorem ev_ge {X : Int} (hX : 0 < X) : ∀ (ds : List Int), (∀ d ∈ ds, 1 ≤ d) → ∀ m, ds.length = m + 1 → X ^ m ≤ ev X ds
  | [d], h, 0, _ => by have := h d (.head _); simp [ev]; omega
  | d :: e :: ds, h, m + 1, hm => by
    have h1 := h d (.head _)
    have h2 := ev_ge hX (e :: ds) (fun x hx => h x (.tail _ hx)) m (by simpa using hm)
    rw [ev, Int.pow_succ, Int.mul_comm]
    have : X * X ^ m ≤ X * ev X (e :: ds) := Int.mul_le_mul_of_nonneg_left h2 (by omega)
    omega
theorem ndig_eq {n : Nat} (hn : 1 ≤ n) (ds : List Int) (h : ∀ d ∈ ds, 1 ≤ d ∧ d < 2 ^ n) : (((Builtin.Int.intBits (ev (2 ^ n) ds) : Int) + (n : Int) - 1) / (n : Int)).toNat = ds.length ∧ ((Builtin.Int.intBits (ev (2 ^ n) ds) : Int) + (n : Int) - 1) / (n : Int) = ds.length ∧ Builtin.Int.intBits (ev (2 ^ n) ds) ≤ n * ds.length := by
  have hX : (0 : Int) < 2 ^ n := Int.pow_pos (by decide)
  obtain ⟨h0, h1⟩ := ev_bound hX ds fun d hd => ⟨by have := (h d hd).1; omega, (h d hd).2⟩
  rw [← Int.pow_mul] at h1
  have h2 := bits_of_lt h0 h1
  have key : ((Builtin.Int.intBits (ev (2 ^ n) ds) : Int) + (n : Int) - 1) / (n : Int) = ds.length := by
    cases hm : ds.length with
    | zero =>
      rw [hm] at h2
      have : Builtin.Int.intBits (ev (2 ^ n) ds) = 0 := by simpa using h2
      rw [this]
      exact Int.ediv_eq_zero_of_lt (by omega) (by omega)
    | succ m =>
      rw [hm] at h2
      have h3 := ev_ge hX ds (fun d hd => (h d hd).1) m hm
      rw [← Int.pow_mul] at h3
      have h4 : n * m < Builtin.Int.intBits (ev (2 ^ n) ds) := by
        rcases Nat.lt_or_ge (n * m) (Builtin.Int.intBits (ev (2 ^ n) ds)) with h | h
        · exact h
        · have h5 := lt_of_bits (x := ev (2 ^ n) ds)
          have h6 : (2 : Int) ^ (Builtin.Int.intBits (ev (2 ^ n) ds)) ≤ 2 ^ (n * m) := by
            have := Nat.pow_le_pow_right (n := 2) (by decide) h
            exact_mod_cast this
          omega
      rw [Nat.mul_succ] at h2
      have e : ((n * m : Nat) : Int) = (n : Int) * (m : Int) := Int.natCast_mul ..
      apply Int.le_antisymm
      · apply Int.le_of_lt_add_one
        apply Int.ediv_lt_of_lt_mul (by omega)
        rw [show ((m + 1 : Nat) : Int) + 1 = (m : Int) + 2 by omega, Int.add_mul, Int.mul_comm (m : Int)]
        omega
      · rw [Int.le_ediv_iff_mul_le (by omega)]
        rw [show ((m + 1 : Nat) : Int) = (m : Int) + 1 by omega, Int.add_mul, Int.mul_comm (m : Int)]
        omega
  exact ⟨by rw [key]; omega, key, h2⟩
theorem digits_back {w : Nat} {half : Int} {row : List Int} (hw : 1 ≤ w) (hh : (2 : Int) ^ w = 2 * half) (hr : ∀ x ∈ row, 15 * (x.natAbs : Int) < 2 ^ w) :
    let v := ev (2 ^ w) row + ev (2 ^ w) (List.replicate row.length half)
    0 ≤ v ∧ ((Builtin.Int.intBits v : Int) + (w : Int) - 1) / (w : Int) = row.length ∧ Builtin.Int.intBits v ≤ w * row.length ∧
    (dg (2 ^ w) (((Builtin.Int.intBits v : Int) + (w : Int) - 1) / (w : Int)).toNat v).map (fun d => d - half) = row := by
  have hX : (0 : Int) < 2 ^ w := Int.pow_pos (by decide)
  have e : ∀ (row : List Int), ev (2 ^ w) row + ev (2 ^ w) (List.replicate row.length half) = ev (2 ^ w) (row.map fun x => x + half) := by
    intro row
    induction row with
    | nil => rfl
    | cons d ds ih => rw [List.length_cons, List.replicate_succ, List.map_cons, ev, ev, ev, ← ih]; grind
  have hd : ∀ d ∈ row.map (fun x => x + half), 1 ≤ d ∧ d < 2 ^ w := by
    intro d hd
    obtain ⟨x, hx, rfl⟩ := List.mem_map.mp hd
    have := hr x hx
    generalize (2 : Int) ^ w = X at *
    omega
  obtain ⟨h1, h2, h3⟩ := ndig_eq hw _ hd
  rw [List.length_map] at h1 h2 h3
  intro v
  have hv : v = ev (2 ^ w) (row.map fun x => x + half) := e row
  rw [hv]
  refine ⟨(ev_bound hX _ fun d h => ⟨by have := (hd d h).1; omega, (hd d h).2⟩).1, h2, h3, ?_⟩
  rw [h1]
  have := dg_ev hX (row.map fun x => x + half) fun d h => ⟨by have := (hd d h).1; omega, (hd d h).2⟩
  rw [List.length_map] at this
  rw [this, List.map_map]
  have z : ((fun d => d - half) ∘ fun x => x + half) = (id : Int → Int) := by funext x; simp only [Function.comp, id]; omega
  rw [z, List.map_id]

/-- the bound of the k-th row -/
noncomputable def bet (M : Int) : Nat → Int
  | 0 => M
  | 1 => M
  | k + 2 => 2 * bet M k * bet M (k + 1)
theorem bet_pos {M : Int} (h : 1 ≤ M) : ∀ k, 1 ≤ bet M k ∧ bet M k ≤ bet M (k + 1)
  | 0 => ⟨h, Int.le_refl _⟩
  | k + 1 => by
    obtain ⟨h1, h2⟩ := bet_pos h k
    refine ⟨by omega, ?_⟩
    show _ ≤ 2 * bet M k * bet M (k + 1)
    have h3 : 1 * bet M (k + 1) ≤ 2 * bet M k * bet M (k + 1) := Int.mul_le_mul_of_nonneg_right (by omega) (by omega)
    omega
theorem bet_mono {M : Int} (h : 1 ≤ M) {j k : Nat} (hjk : j ≤ k) : bet M j ≤ bet M k := by
  induction k with
  | zero => have : j = 0 := by omega
            subst this; exact Int.le_refl _
  | succ k ih =>
    rcases Nat.lt_or_ge k j with h1 | h1
    · have : j = k + 1 := by omega
      subst this; exact Int.le_refl _
    · exact Int.le_trans (ih h1) (bet_pos h k).2
theorem bet6 (M : Int) : bet M 6 = 4096 * M ^ 13 := by
  simp only [bet]; grind
structure RInv (M X : Int) (n k : Nat) (as bs : List Int) : Prop where
  X0 : 0 < X
  M1 : 1 ≤ M
  big : 15 * bet M 6 < X
  n6 : n ≤ 6
  len : as.length = bs.length ∨ as.length = bs.length + 1
  sum : as.length + bs.length + k = n + 1
  ba : ∀ x ∈ as, (x.natAbs : Int) ≤ bet M k
  bb : ∀ x ∈ bs, (x.natAbs : Int) ≤ bet M (k + 1)
  g : as.length = 1 → top bs = 0 ∨ (top as).natAbs ≤ (top bs).natAbs
theorem top_mem {ds : List Int} (h : ds ≠ []) : top ds ∈ ds := by
  have e := last_split ds h
  generalize top ds = t at *
  rw [e]
  exact List.mem_append.mpr (.inr (.head _))
theorem len_pos {ds : List Int} (h : ds ≠ []) : 1 ≤ ds.length := List.length_pos_iff.mpr h
theorem side_natAbs (t x : Int) : (sideOf t * x).natAbs = x.natAbs := by
  rw [side_mul]; split <;> omega
theorem RInv.le {M X : Int} {n k : Nat} {as bs : List Int} (R : RInv M X n k as bs) : bs.length ≤ as.length := by rcases R.len with h | h <;> omega
theorem RInv.nxtb {M X : Int} {n k : Nat} {as bs : List Int} (R : RInv M X n k as bs) (t0 : top bs ≠ 0) : ∀ x ∈ nxt as bs, (x.natAbs : Int) ≤ bet M (k + 2) := by
  have hb := top_ne t0
  have hbl := len_pos hb
  have hal : as ≠ [] := by rintro rfl; have := R.le; simp at this; exact hb this
  intro x hx
  unfold nxt at hx
  refine comb_mem as (pad as bs) (fun x hx y hy => ?_) x ((List.dropLast_sublist _).subset hx)
  have h1 := R.ba x hx
  have h2 : (y.natAbs : Int) ≤ bet M (k + 1) := by
    unfold pad at hy
    rcases List.mem_append.mp hy with h | h
    · rw [(List.mem_replicate.mp h).2]; have := (bet_pos R.M1 (k + 1)).1; simpa using (by omega : (0 : Int) ≤ bet M (k + 1))
    · exact R.bb y h
  have h3 := R.bb _ (top_mem hb)
  have h4 := R.ba _ (top_mem hal)
  have e1 : (((top bs).natAbs : Int) * x).natAbs = (top bs).natAbs * x.natAbs := by rw [Int.natAbs_mul]; simp
  have e2 : (sideOf (top bs) * top as * y).natAbs = (top as).natAbs * y.natAbs := by rw [Int.natAbs_mul, side_natAbs]
  have p1 : ((top bs).natAbs : Int) * (x.natAbs : Int) ≤ bet M (k + 1) * bet M k := Int.mul_le_mul h3 h1 (by omega) (by omega)
  have p2 : ((top as).natAbs : Int) * (y.natAbs : Int) ≤ bet M k * bet M (k + 1) := Int.mul_le_mul h4 h2 (by omega) (by omega)
  have e3 : bet M (k + 2) = bet M (k + 1) * bet M k + bet M k * bet M (k + 1) := by simp only [bet]; grind
  rw [← Int.natCast_mul, ← e1] at p1
  rw [← Int.natCast_mul, ← e2] at p2
  omega
theorem RInv.row {M X : Int} {n k : Nat} {as bs : List Int} (R : RInv M X n k as bs) (t0 : top bs ≠ 0) : RowIn X as bs where
  X0 := R.X0
  len := R.le
  t0 := t0
  sb := fun x hx => by
    have h1 := R.bb x hx
    have h2 := len_pos (top_ne t0)
    have h3 := R.sum
    have h4 := R.n6
    have h5 := R.le
    have h6 := bet_mono R.M1 (j := k + 1) (k := 6) (by omega)
    have := R.big
    omega
  sn := fun x hx => by
    have h1 := R.nxtb t0 x hx
    have h2 := len_pos (top_ne t0)
    have h3 := R.sum
    have h4 := R.n6
    have h5 := R.le
    have h7 : 1 ≤ (nxt as bs).length := List.length_pos_of_mem hx
    rw [nxt_len R.le] at h7
    have h6 := bet_mono R.M1 (j := k + 2) (k := 6) (by omega)
    have := R.big
    omega
theorem RInv.sa {M X : Int} {n k : Nat} {as bs : List Int} (R : RInv M X n k as bs) (t0 : top bs ≠ 0) : ∀ x ∈ as, 15 * (x.natAbs : Int) < X := fun x hx => by
  have h1 := R.ba x hx
  have h2 := len_pos (top_ne t0)
  have h3 := R.sum
  have h4 := R.n6
  have h5 := R.le
  have h6 := bet_mono R.M1 (j := k) (k := 6) (by omega)
  have := R.big
  omega
theorem RInv.next {M X : Int} {n k : Nat} {as bs : List Int} (R : RInv M X n k as bs) (t0 : top bs ≠ 0) : RInv M X n (k + 1) bs (nxt as bs) where
  X0 := R.X0
  M1 := R.M1
  big := R.big
  n6 := R.n6
  len := by rw [nxt_len R.le]; have := R.len; have := len_pos (top_ne t0); omega
  sum := by rw [nxt_len R.le]; have := R.sum; have := R.le; have := len_pos (top_ne t0); omega
  ba := R.bb
  bb := R.nxtb t0
  g := by
    intro h1
    have h2 := R.len
    rw [h1] at h2
    obtain ⟨b, rfl⟩ : ∃ b, bs = [b] := List.length_eq_one_iff.mp h1
    rcases h2 with h2 | h2
    · obtain ⟨a, rfl⟩ : ∃ b, as = [b] := List.length_eq_one_iff.mp h2
      left; rfl
    · obtain ⟨a, c, rfl⟩ : ∃ a c, as = [a, c] := (match as, h2 with | [a, c], _ => ⟨a, c, rfl⟩)
      have e : top (nxt [a, c] [b]) = (b.natAbs : Int) * a - sideOf b * c * 0 := rfl
      rw [e]
      have e2 : top [b] = b := rfl
      rw [e2, Int.mul_zero, Int.sub_zero]
      by_cases ha : a = 0
      · left; rw [ha, Int.mul_zero]
      · right
        rw [Int.natAbs_mul]
        have : b.natAbs * 1 ≤ b.natAbs * a.natAbs := Nat.mul_le_mul_left _ (by omega)
        simpa using this
end Mine
end

section
/- sizes in one turn of Routh's table: plain -/
namespace Mine
open PySem PyProof.Rows
noncomputable def tail : Nat → List Int → List Int → List Int
  | 0, _, _ => []
  | f + 1, as, bs => if top bs = 0 then [] else top bs :: tail f bs (nxt as bs)
theorem bits_abs {x : Int} {m : Nat} (h : (x.natAbs : Int) < 2 ^ m) : Builtin.Int.intBits x ≤ m := intBits_le_iff.mpr (by exact_mod_cast h)
theorem abs_bits {x : Int} : (x.natAbs : Int) < 2 ^ (Builtin.Int.intBits x) := by
  have h1 : x.natAbs < 2 ^ Builtin.Int.intBits x := intBits_le_iff.mp (Nat.le_refl _)
  exact_mod_cast h1
theorem seg_bits2 {ds : List Int} {w : Nat} (hl : ds.length < 64) (hw : w ≤ 2 ^ 13) (hd : ∀ d ∈ ds, 15 * (d.natAbs : Int) < 2 ^ w) (a b : Int) (h0 : 0 ≤ a) (hab : a < b) (hb : b ≤ ds.length) : Builtin.Int.intBits (ev (2 ^ w) (seg ds a b)) ≤ 2 ^ 20 := by
  have h1 := ev_small (X := 2 ^ w) (Int.pow_pos (by decide)) (seg ds a b) fun d hm => hd d (seg_mem d hm)
  rw [← Int.pow_mul] at h1
  refine Nat.le_trans (bits_abs (m := w * (seg ds a b).length) (by omega)) ?_
  rw [seg_len h0 hb]
  have : (b - a).toNat ≤ 64 := by omega
  exact Nat.le_trans (Nat.mul_le_mul hw this) (by decide)
theorem pad_small {as bs : List Int} {X : Int} (hX : 0 < X) (h : ∀ x ∈ bs, 15 * (x.natAbs : Int) < X) : ∀ x ∈ pad as bs, 15 * (x.natAbs : Int) < X := by
  intro x hx
  unfold pad at hx
  rcases List.mem_append.mp hx with q | q
  · rw [(List.mem_replicate.mp q).2]; simpa using hX
  · exact h x q
section
variable {M : Int} {n k w : Nat} {as bs : List Int}
theorem RInv.la (R : RInv M (2 ^ w) n k as bs) : as.length ≤ 4 := by
  have := R.len; have := R.sum; have := R.n6; omega
theorem RInv.a1 (R : RInv M (2 ^ w) n k as bs) (t0 : top bs ≠ 0) : 1 ≤ bs.length ∧ 1 ≤ as.length := by
  have := len_pos (top_ne t0); have := R.le; omega
theorem RInv.tb (R : RInv M (2 ^ w) n k as bs) (t0 : top bs ≠ 0) : Builtin.Int.intBits ((top bs).natAbs : Int) ≤ w := by
  have h := (R.row t0).sb _ (top_mem (top_ne t0))
  exact bits_abs (by simp only [Int.natAbs_natCast]; omega)
theorem RInv.ab (R : RInv M (2 ^ w) n k as bs) (t0 : top bs ≠ 0) : Builtin.Int.intBits (ev (2 ^ w) as) ≤ w * as.length := by
  have h := ev_small R.X0 as (R.sa t0)
  rw [← Int.pow_mul] at h
  exact bits_abs (by omega)
theorem RInv.lb (R : RInv M (2 ^ w) n k as bs) (t0 : top bs ≠ 0) : Builtin.Int.intBits (ev (2 ^ w) (pad as bs)) ≤ w * as.length := by
  have h := ev_small R.X0 (pad as bs) (pad_small R.X0 (R.row t0).sb)
  rw [← Int.pow_mul, pad_len R.le] at h
  exact bits_abs (by omega)
theorem RInv.ub (R : RInv M (2 ^ w) n k as bs) (t0 : top bs ≠ 0) : Builtin.Int.intBits (((top bs).natAbs : Int) * ev (2 ^ w) as) ≤ w * (as.length + 1) := by
  have := intBits_mul_le (R.tb t0) (R.ab t0)
  rw [Nat.mul_add]; omega
theorem RInv.mulOk (R : RInv M (2 ^ w) n k as bs) (t0 : top bs ≠ 0) (hw : w ≤ 900) : IntMulOk ((top bs).natAbs : Int) (ev (2 ^ w) as) := by
  refine IntMulOk.of_le (R.tb t0) (R.ab t0) ?_
  have h1 := R.la
  have : w * as.length ≤ 900 * 4 := Nat.mul_le_mul hw h1
  omega
theorem RInv.hD (R : RInv M (2 ^ w) n k as bs) (t0 : top bs ≠ 0) (hw1 : 1 ≤ w) (_hw : w ≤ 900) :
    Builtin.Int.intBits (((top bs).natAbs : Int) * ev (2 ^ w) as) ≤ 60 * Builtin.Int.intBits (ev (2 ^ w) (pad as bs)) := by
  obtain ⟨hb1, ha1⟩ := R.a1 t0
  rcases Nat.lt_or_ge 1 as.length with h | h
  · have h1 := low_of (R.row t0)
    have h2 := R.ub t0
    have h3 : w * (as.length - 1) ≤ Builtin.Int.intBits (ev (2 ^ w) (pad as bs)) := by
      rcases Nat.lt_or_ge (Builtin.Int.intBits (ev (2 ^ w) (pad as bs))) (w * (as.length - 1)) with q | q
      · exfalso
        have h4 := abs_bits (x := ev (2 ^ w) (pad as bs))
        have h5 : (2 : Int) ^ (Builtin.Int.intBits (ev (2 ^ w) (pad as bs)) + 1) ≤ 2 ^ (w * (as.length - 1)) := by
          have := Nat.pow_le_pow_right (n := 2) (by decide) q
          exact_mod_cast this
        rw [Int.pow_succ, Int.pow_mul] at h5
        rw [side_mul] at h1
        have hp := pow_pos' R.X0 (as.length - 1)
        generalize ((2 : Int) ^ w) ^ (as.length - 1) = P at *
        split at h1 <;> omega
      · exact q
    have h6 : w * (as.length + 1) ≤ w * (3 * (as.length - 1)) := Nat.mul_le_mul_left _ (by omega)
    have e6 : w * (3 * (as.length - 1)) = 3 * (w * (as.length - 1)) := by rw [← Nat.mul_assoc, ← Nat.mul_assoc, Nat.mul_comm w 3]
    omega
  · have h1 : as.length = 1 := by omega
    have h2 : bs.length = 1 := by have := R.le; omega
    have hg := R.g h1
    obtain ⟨a, rfl⟩ : ∃ b, as = [b] := List.length_eq_one_iff.mp h1
    obtain ⟨b, rfl⟩ : ∃ b, bs = [b] := List.length_eq_one_iff.mp h2
    have e1 : ev (2 ^ w) [a] = a := by simp [ev]
    have e2 : ev (2 ^ w) (pad [a] [b]) = b := by simp [ev, pad]
    have e3 : top [b] = b := rfl
    have e4 : top [a] = a := rfl
    rw [e3] at t0 hg ⊢
    rw [e4] at hg
    rw [e1, e2]
    have h5 : a.natAbs ≤ b.natAbs := by omega
    have h6 := intBits_mul_le (x := (b.natAbs : Int)) (y := a) (m := Builtin.Int.intBits b) (n := Builtin.Int.intBits b) (intBits_natAbs_le (Nat.le_refl _)) (intBits_le_of_natAbs h5 (Nat.le_refl _))
    omega
end
theorem half_eq {w : Nat} (hw : 1 ≤ w) : (2 : Int) ^ w = 2 * (1 * 2 ^ ((w : Int) - 1).toNat) := by
  have : ((w : Int) - 1).toNat = w - 1 := by omega
  rw [this]
  obtain ⟨v, rfl⟩ : ∃ v, w = v + 1 := ⟨w - 1, by omega⟩
  rw [Int.pow_succ]; simp; omega
end Mine
end

section
open PySem PySem.W PySem.Spec PySem.Calls PyProof.Rows
set_option maxRecDepth 100000
set_option maxHeartbeats 0
namespace Mine
section
variable {prog : Program} {w : World} {A : Around} {E : Value → Shared → Prop} {s : Shared} {h₀ : Heap} {L : Addr} {m : Str → Option Value} {env : Env}
/-- a comprehension over a range of any step -/
noncomputable def Src2 (prog : Program) (w : World) (A : Around) (h₀ : Heap) (L : Addr) (m : Str → Option Value) (env : Env) (elt : Expr) (x : Str) (scope : Scope) (cl : List (Str × Addr)) (Fin : Shared → List Value → List (Addr × Obj) → Prop) (xv : Value) (s₁ : Shared) : Prop :=
  ∃ (r : Addr) (a b c : Int) (t u v : Tok) (n : Nat) (news : List (Addr × Obj)), xv = .ref r ∧ A.handled = none ∧ Fr h₀ L s₁.heap m ∧ News h₀ L s₁.heap news ∧ IsRange s₁.heap r a b c t u v ∧ Builtin.Range.small a b c = true ∧ Builtin.Range.rangeSize a b c = ((n : Nat) : Int) ∧ n ≤ sizeLine ∧
    ∀ g, LCg.CompRest prog w A h₀ L m env elt x scope cl { s₁ with heap := g } (fun _ => True) (fun i v => i < n ∧ ∃ t, v = .int (a + (i : Int) * c) t) (Fin { s₁ with heap := g }) n 0 [] news
theorem Src2.intro {elt : Expr} {x : Str} {scope : Scope} {cl : List (Str × Addr)} {Fin : Shared → List Value → List (Addr × Obj) → Prop} {r : Addr} {a b c : Int} {t u v : Tok} {n : Nat} {news : List (Addr × Obj)} {s₁ : Shared}
    (hh : A.handled = none) (F : Fr h₀ L s₁.heap m) (N : News h₀ L s₁.heap news) (hr : IsRange s₁.heap r a b c t u v) (hsm : Builtin.Range.small a b c = true) (hn : Builtin.Range.rangeSize a b c = ((n : Nat) : Int)) (hsz : n ≤ sizeLine)
    (h : ∀ g, LCg.CompRest prog w A h₀ L m env elt x scope cl { s₁ with heap := g } (fun _ => True) (fun i v => i < n ∧ ∃ t, v = .int (a + (i : Int) * c) t) (Fin { s₁ with heap := g }) n 0 [] news) :
    Src2 prog w A h₀ L m env elt x scope cl Fin (.ref r) s₁ := ⟨r, a, b, c, t, u, v, n, news, rfl, hh, F, N, hr, hsm, hn, hsz, h⟩
theorem iter_keeps {I : Addr} {a c : Int} {n : Nat} (i : Nat) (h h' : Heap) (o : Obj) (nw : List (Addr × Obj)) (st : IsRangeIter h I (a + (i : Nat) * c) ((n : Int) - (i : Nat)) c) (e : h.get? I = some o) (e' : h'.get? I = some o)
    (_ : ∀ b o, h₀.get? b = some o → h'.get? b = some o) (_ : News h₀ L h' nw) (_ : True) : IsRangeIter h' I (a + (i : Nat) * c) ((n : Int) - (i : Nat)) c := by
  have q : h.get? I = some _ := st
  rw [e] at q
  show h'.get? I = some _
  rw [e', q]
theorem comp_step {elt iter : Expr} {x y : Str} {px py : Pos} {scope : Scope} {cl : List (Str × Addr)} {pos spos : Pos} {Q : Flow → Shared → Prop} (_F : Fr h₀ L s.heap m) (hL : env.locals = L)
    (hsw : swapsWith (.ListComp elt [⟨.Name x px, iter, [], 0⟩] scope pos) (some (.Name y py)) spos.line env = pure true)
    (hclos : closureFor scope env = pure cl) (hcell : ∀ z ∈ scope.names, z.2 ≠ .cell) (hkind : scope.kind = .function)
    (hnames : ∀ z ∈ scope.names, z.2 = .local → scope.names.lookup z.1 = some .local) (hx : scope.names.lookup x = some .local)
    (hy : env.kindOf y = some .local) (hp : (env.scope.kind == .class || (env.scope.kind == .module && env.locals != env.globals)) = false)
    (h : wpAny (model prog w) A (eval iter env) (Src2 prog w A h₀ L m env elt x scope cl (fun s₂ => LCg.FinA h₀ L m s₂ y Q)) E s)
    (hs : ∀ x, foldedSetIterable iter env x = pure x := by intro _; rfl) :
    wpAny (model prog w) A (exec (.Assign [.Name y py] (.ListComp elt [⟨.Name x px, iter, [], 0⟩] scope pos) spos) env) Q E s := by
  subst hL
  rw [exec_Assign_Name_used _ _ _ _ hsw]
  refine wpAny_bind (wpAny_standAt (wpAny_bind ?_))
  show wpAny _ A (do let _ ← comprehension (.ListComp elt [⟨.Name x px, iter, [], 0⟩] scope pos) scope env _ (newList []) false (eval iter env) (some (assign (.Name y py) env))) _ _ s
  refine wpAny_bind (wpAny_mono (wpAny_comprehension_free (use := some (assign (.Name y py) env)) (Q := fun _ s' => Q .next s') rfl hs hclos hkind hnames
    (wpAny_mono h (fun xv s₁ h₁ => ?_) fun _ _ e => e)) (fun _ s' hq => wpAny_pure (wpAny_pure hq)) fun _ _ e => e)
  obtain ⟨r, a, b, c, t, u, v, n, news, rfl, hh, F, N, hr, hsm, hn, hsz, R⟩ := h₁
  refine wpAny_pyIter_range hr hsm ?_
  have W : Walks prog w A s₁.heap.objs.size [s₁.heap.objs.size] [s₁.heap.objs.size] n (fun i v => i < n ∧ ∃ t, v = .int (a + (i : Int) * c) t) (fun i h => IsRangeIter h s₁.heap.objs.size (a + (i : Nat) * c) ((n : Int) - (i : Nat)) c) := (Walks.range hh _ a c n).bound
  refine LCg.block_U W hsz (fun i h st => ⟨_, st⟩) iter_keeps hcell hkind hx (by show IsRangeIter _ _ _ _ _; rw [hn]; simpa using Heap.get?_push_size _ rfl) (fun b hb => ?_)
    (F.keeps fun _ _ e => Heap.get?_push_of_some _ e) (N.grown fun _ _ e => Heap.get?_push_of_some _ e) (Nat.ne_of_lt F.ns.lt) (next_is_new F) (fun p hp => Nat.ne_of_lt (Heap.lt_size (N p hp).1)) trivial (R _) ?_
  · rw [List.mem_singleton.mp hb]
    show s₁.heap.objs.size < (s₁.heap.push _).objs.size
    rw [Heap.size_push]; exact Nat.lt_succ_self _
  · intro D C h' tk m' ys news' F' N' o1 hn2 hC0 hD0 hCL hDL hCD offC fin
    show wpAny _ A (assign (.Name y py) env (.ref D)) _ _ _
    refine wpAny_assign_Name (wpAny_storeName_local hy F'.ns (fun h₂ hn₂ hs₂ => ?_) hp)
    have hL0 : h₀.get? env.locals = none := Heap.get?_none_of_le F'.above
    have F₂ : Fr h₀ env.locals h₂ (fun z => if z = y then some (.ref D) else m z) := ⟨hn₂, fun b o e => hs₂.extBut b o (fun q => by rw [q, hL0] at e; cases e) (F'.keep b o e), F'.above⟩
    refine ⟨m', hn2.sameBut hs₂ hCL, fun h'' hs'' => fin D h'' _ (F₂.change hs'' hCL hC0) (fun p hp => ⟨hs''.extBut _ _ ?_ (hs₂.extBut _ _ (N' p hp).2.1 (N' p hp).1), (N' p hp).2⟩) o1⟩
    rcases List.mem_cons.mp hp with rfl | hp
    · exact Ne.symm hCD
    · exact offC p hp
end
/-- the ints of a range from a by c -/
noncomputable def ks2 (a c : Int) (n : Nat) : List Int := (List.range n).map fun i : Nat => a + (i : Int) * c
theorem ks2_len (a c : Int) (n : Nat) : (ks2 a c n).length = n := by simp [ks2]
theorem ks2_mem {a c : Int} {n : Nat} {k : Int} (h : k ∈ ks2 a c n) : ∃ i : Nat, i < n ∧ k = a + (i : Int) * c := by
  obtain ⟨i, hi, e⟩ := List.mem_map.mp h
  exact ⟨i, List.mem_range.mp hi, e.symm⟩
theorem ks2_at {a c : Int} {n : Nat} : ∀ i v, i < n → (i < n ∧ ∃ t, v = Value.int (a + (i : Int) * c) t) → ∃ k t, (ks2 a c n)[i]? = some k ∧ v = Value.int k t := by
  rintro i v hi ⟨_, t, e⟩
  exact ⟨_, t, by simp [ks2, hi], e⟩


section
variable {prog : Program} {w : World} {A : Around} {E : Value → Shared → Prop} {s : Shared} {h₀ : Heap} {L : Addr} {news : List (Addr × Obj)} {Q : Value → Shared → Prop}
theorem last_op {value slice : PySem.Expr} {l : Addr} {vs : List Value} {ds : List Int} {e : Nat} {u : Tok} (N : News h₀ L s.heap news) (hm : (l, PySem.W.listOf vs.toArray e) ∈ news) (hi : IntsAre vs ds)
    (h0 : 1 ≤ ds.length) (hs : ds.length < 2 ^ 20) (h : ∀ t, Q (.int (top ds) t) s)
    (hsub : subscripted slice false (.ref l) (.int (-1) u) = operate [.ref l, .int (-1) u] (getItem (.ref l) (.int (-1) u)) := by with_unfolding_all rfl) :
    wpAny (model prog w) A (subscriptTail value slice (.ref l) (.int (-1) u)) Q E s := by
  have hl : s.heap.IsList l vs.toArray := ⟨_, N.get hm, rfl, e, rfl⟩
  have hlen : vs.length = ds.length := hi.length
  obtain ⟨t, ht⟩ := hi.get (ds.length - 1) (top ds) (by
    have : ds.length - 1 < ds.length := by omega
    simp [top, List.getD_eq_getElem?_getD, this])
  have hz : (-1 + (vs.toArray.size : Int)).toNat = ds.length - 1 := by rw [List.size_toArray, hlen]; omega
  refine tail_any hl.typeIs slot_list_getitem.lookup (wpAny_getItem_list_neg hl (by decide) (by rw [List.size_toArray, hlen]; omega) (by decide) ?_ (h t)) hsub
  rw [hz]
  simpa using ht
end
section
variable {prog : Program} {w : World} {A : Around} {E : Value → Shared → Prop} {s : Shared} {h₀ : Heap} {L : Addr} {news : List (Addr × Obj)} {Q : Value → Shared → Prop}
theorem nenil_op {a b : Addr} {vs : List Value} {ds : List Int} {e e' : Nat} (N : News h₀ L s.heap news) (hm : (a, PySem.W.listOf vs.toArray e) ∈ news) (hi : IntsAre vs ds) (hb : (b, PySem.W.listOf #[] e') ∈ news) (hu : A.units + 64 < cLine)
    (h : Q (.bool (!decide (ds = []))) s) : wpAny (model prog w) A (compareOp .NotEq (.ref a) (.ref b)) Q E s :=
  ne_intsK (us := []) (ms := []) ⟨_, N.get hm, rfl, e, rfl⟩ hi ⟨_, N.get hb, rfl, e', rfl⟩ .nil hu h
theorem eqnil_op {a b : Addr} {vs : List Value} {ds : List Int} {e e' : Nat} (N : News h₀ L s.heap news) (hm : (a, PySem.W.listOf vs.toArray e) ∈ news) (hi : IntsAre vs ds) (hb : (b, PySem.W.listOf #[] e') ∈ news) (hu : A.units + 64 < cLine)
    (h : Q (.bool (decide (ds = []))) s) : wpAny (model prog w) A (compareOp .Eq (.ref a) (.ref b)) Q E s :=
  eq_intsK (us := []) (ms := []) ⟨_, N.get hm, rfl, e, rfl⟩ hi ⟨_, N.get hb, rfl, e', rfl⟩ .nil hu h
end
section
variable {prog : Program} {w : World} {A : Around} {E : Value → Shared → Prop} {s : Shared} {h₀ : Heap} {L : Addr} {m : Str → Option Value} {news : List (Addr × Obj)} {Q : Value → Shared → Prop}
theorem cat_op {a b : Addr} {vs us : List Value} {ds fs : List Int} {e e' : Nat} (F : Fr h₀ L s.heap m) (N : News h₀ L s.heap news) (hm : (a, PySem.W.listOf vs.toArray e) ∈ news) (hi : IntsAre vs ds) (hb : (b, PySem.W.listOf us.toArray e') ∈ news) (hj : IntsAre us fs)
    (hl : ds.length < 2 ^ 20) (hl' : fs.length < 2 ^ 20) (h : ∀ l ws h', Fr h₀ L h' m → News h₀ L h' ((l, PySem.W.listOf ws.toArray 0) :: news) → (∀ p ∈ news, p.1 < l) → IntsAre ws (ds ++ fs) → Q (.ref l) { s with heap := h' }) :
    wpAny (model prog w) A (binaryOp .Add (.ref a) (.ref b)) Q E s := by
  exact kmk_add_ints F N ⟨_, N.get hm, rfl, e, rfl⟩ ⟨_, N.get hb, rfl, e', rfl⟩ hi hj h (by rw [PySem.sizeLine_eq]; omega)
theorem abs_op {a : Int} {t : Tok} (h : ∀ y u tk, y = (a.natAbs : Int) → Q (.int y u) { s with toks := tk }) : wpAny (model prog w) A (call (.builtin "abs") [.int a t]) Q E s := by
  refine call_abs_int fun u tk => h _ u tk ?_
  split <;> omega
theorem side_bits (t : Int) : Builtin.Int.intBits (sideOf t) ≤ 64 := by
  unfold sideOf; split <;> decide +kernel
theorem mulA {M : Int} {n k wd : Nat} {as bs : List Int} (hI : RInv M (2 ^ wd) n k as bs) (t0 : top bs ≠ 0) (hw : wd ≤ 900) {y v q : Int} (e1 : y = (v.natAbs : Int)) (e2 : v = top bs) (e3 : q = ev (2 ^ wd) as) : IntMulOk y q := by
  rw [e1, e2, e3]; exact hI.mulOk t0 hw
end
theorem U_eq {y v q c X : Int} {bs as : List Int} (e4 : q = ev X as) (e1 : c = y * q) (e2 : y = (v.natAbs : Int)) (e3 : v = top bs) : c = ((top bs).natAbs : Int) * ev X as := by
  rw [e1, e2, e3, e4]
theorem pad_of {as bs : List Int} {ws : List Value} (h : bs.length ≤ as.length) (hi : IntsAre ws (List.replicate ((as.length : Int) - (bs.length : Int)).toNat 0 ++ bs)) : IntsAre ws (pad as bs) := by
  have z : ((as.length : Int) - (bs.length : Int)).toNat = as.length - bs.length := by omega
  rw [z] at hi; exact hi
theorem TabSt.has {line col : Int} {qual : Str} {news : List (Addr × Obj)} {c' : Nat} {oc : Obj} {cvs : Array Value} {tq : Tok} (h1 : c' ≠ 37) (h2 : c' ≠ 30) (hm : (c', oc) ∈ news) (d1 : oc.data = .fields cvs) (d2 : cvs[1]? = some (.str qual tq)) : TabSt line col qual news #[rawInt line, rawInt col, .ref c'] :=
  .inr ⟨c', oc, cvs, tq, rfl, h1, h2, hm, d1, d2⟩
theorem w_le {w a k m : Nat} (hw : w ≤ 900) (ha : a ≤ k) (h : 900 * k ≤ m) : w * a ≤ m := Nat.le_trans (Nat.mul_le_mul hw ha) h
noncomputable def JFr (h₀ : Heap) (L : Addr) (x1 x2 : Str) (v1 v2 : Int) (m : Str → Option Value) (news : List (Addr × Obj)) (s : Shared) (f : Flow) (s' : Shared) : Prop :=
  f = .next ∧ ∃ (h : Heap) (tk : Nat) (m' : Str → Option Value) (t1 t2 : Tok), s' = { s with heap := h, toks := tk } ∧ Fr h₀ L h m' ∧ News h₀ L h news ∧ m' x1 = some (.int v1 t1) ∧ m' x2 = some (.int v2 t2) ∧ ∀ z, z ≠ x1 → z ≠ x2 → m' z = m z
theorem jfr {h₀ h : Heap} {L : Addr} {x1 x2 : Str} {v1 v2 : Int} {m m' : Str → Option Value} {news news' : List (Addr × Obj)} {s : Shared} {t1 t2 : Tok} {tk : Nat} (F : Fr h₀ L h m') (N : News h₀ L h news') (hs : ∀ q ∈ news, q ∈ news') (h1 : m' x1 = some (.int v1 t1)) (h2 : m' x2 = some (.int v2 t2)) (h3 : ∀ z, z ≠ x1 → z ≠ x2 → m' z = m z) :
    JFr h₀ L x1 x2 v1 v2 m news s .next { s with heap := h, toks := tk } := ⟨rfl, h, tk, m', t1, t2, rfl, F, fun q hq => N q (hs q hq), h1, h2, h3⟩
theorem join_if {Mo : Model} {A : Around} {E : Value → Shared → Prop} {s : Shared} {t : Sem Flow} {Q : Flow → Shared → Prop} {h₀ : Heap} {L : Addr} {m : Str → Option Value} (_F : Fr h₀ L s.heap m) (x1 x2 : Str) (v1 v2 : Int) (news : List (Addr × Obj)) (h : wpAny Mo A t (JFr h₀ L x1 x2 v1 v2 m news s) E s)
    (hQ : ∀ t1 t2 h tk, Fr h₀ L h (fun y => if y = x1 then some (.int v1 t1) else if y = x2 then some (.int v2 t2) else m y) → News h₀ L h news → Q .next { s with heap := h, toks := tk }) : wpAny Mo A t Q E s :=
  wpAny_mono h (fun f s' q => by
    obtain ⟨rfl, h, tk, m', t1, t2, rfl, F, N, h1, h2, h3⟩ := q
    refine hQ t1 t2 h tk ?_ N
    have e : (fun y => if y = x1 then some (Value.int v1 t1) else if y = x2 then some (Value.int v2 t2) else m y) = m' := by
      funext y
      by_cases e1 : y = x1
      · rw [if_pos e1, e1, h1]
      · rw [if_neg e1]
        by_cases e2 : y = x2
        · rw [if_pos e2, e2, h2]
        · rw [if_neg e2]; exact (h3 y e1 e2).symm
    rw [e]; exact F) fun _ _ e => e
theorem rep_of {ws : List Value} {n : Nat} {x : Int} (h1 : 1 ≤ n) (hi : IntsAre ws (List.replicate ((n : Int) - 1).toNat x)) : IntsAre ws (List.replicate (n - 1) x) := by
  have z : ((n : Int) - 1).toNat = n - 1 := by omega
  rw [z] at hi; exact hi
theorem tail_step {ts R as bs : List Int} (hT : ts ++ tail (as.length + bs.length + 1) as bs = R) (t0 : top bs ≠ 0) (hle : bs.length ≤ as.length) (ha : 1 ≤ as.length) :
    (ts ++ [top bs]) ++ tail (bs.length + (nxt as bs).length + 1) bs (nxt as bs) = R := by
  have e : bs.length + (nxt as bs).length + 1 = as.length + bs.length := by rw [nxt_len hle]; omega
  rw [e, List.append_assoc]
  rw [tail, if_neg t0] at hT
  exact hT
theorem row_of {w : Nat} {half : Int} {as bs : List Int} (hle : bs.length ≤ as.length) (hw : 1 ≤ w) (hh : (2 : Int) ^ w = 2 * half) (hr : ∀ x ∈ nxt as bs, 15 * (x.natAbs : Int) < 2 ^ w) :
    let v := ev (2 ^ w) (nxt as bs) + ev (2 ^ w) (List.replicate (as.length - 1) half)
    0 ≤ v ∧ ((Builtin.Int.intBits v : Int) + (w : Int) - 1) / (w : Int) = ((as.length - 1 : Nat) : Int) ∧ Builtin.Int.intBits v ≤ w * (as.length - 1) ∧
    (dg (2 ^ w) (((Builtin.Int.intBits v : Int) + (w : Int) - 1) / (w : Int)).toNat v).map (fun d => d - half) = nxt as bs := by
  have := digits_back hw hh hr
  rw [nxt_len hle] at this
  exact this
end Mine
end

section
open PySem PySem.W PySem.Spec PySem.Calls PyProof.Rows
set_option maxRecDepth 100000
set_option maxHeartbeats 0
namespace Mine
theorem rs0 {k : Nat} (h5 : 5 ≤ k) (h7 : k ≤ 7) : Builtin.Range.rangeSize (Int.fmod ((k : Int) - 1) 2) ((k : Int) - 1 + 1) 2 = (((k - 1) / 2 + 1 : Nat) : Int) := by
  obtain rfl | rfl | rfl : k = 5 ∨ k = 6 ∨ k = 7 := by omega
  all_goals decide +kernel
theorem sm0 {k : Nat} (h5 : 5 ≤ k) (h7 : k ≤ 7) : Builtin.Range.small (Int.fmod ((k : Int) - 1) 2) ((k : Int) - 1 + 1) 2 = true := by
  obtain rfl | rfl | rfl : k = 5 ∨ k = 6 ∨ k = 7 := by omega
  all_goals decide +kernel
theorem rs1 {k : Nat} (h5 : 5 ≤ k) (h7 : k ≤ 7) : Builtin.Range.rangeSize (Int.fmod ((k : Int) - 1 + 1) 2) ((k : Int) - 1) 2 = ((k / 2 : Nat) : Int) := by
  obtain rfl | rfl | rfl : k = 5 ∨ k = 6 ∨ k = 7 := by omega
  all_goals decide +kernel
theorem sm1 {k : Nat} (h5 : 5 ≤ k) (h7 : k ≤ 7) : Builtin.Range.small (Int.fmod ((k : Int) - 1 + 1) 2) ((k : Int) - 1) 2 = true := by
  obtain rfl | rfl | rfl : k = 5 ∨ k = 6 ∨ k = 7 := by omega
  all_goals decide +kernel
theorem ks0_in {k : Nat} (h5 : 5 ≤ k) (h7 : k ≤ 7) {x : Int} (h : x ∈ ks2 (Int.fmod ((k : Int) - 1) 2) 2 ((k - 1) / 2 + 1)) : 0 ≤ x ∧ x < k := by
  obtain ⟨i, hi, rfl⟩ := ks2_mem h
  rw [Int.fmod_eq_emod_of_nonneg _ (by decide)]
  omega
theorem ks1_in {k : Nat} (h5 : 5 ≤ k) (h7 : k ≤ 7) {x : Int} (h : x ∈ ks2 (Int.fmod ((k : Int) - 1 + 1) 2) 2 (k / 2)) : 0 ≤ x ∧ x < k := by
  obtain ⟨i, hi, rfl⟩ := ks2_mem h
  rw [Int.fmod_eq_emod_of_nonneg _ (by decide)]
  omega
noncomputable def row0 (cf : List Int) : List Int := (ks2 (Int.fmod ((cf.length : Int) - 1) 2) 2 ((cf.length - 1) / 2 + 1)).map fun k => cf.getD k.toNat 0
noncomputable def row1 (cf : List Int) : List Int := (ks2 (Int.fmod ((cf.length : Int) - 1 + 1) 2) 2 (cf.length / 2)).map fun k => cf.getD k.toNat 0
theorem row0_len (cf : List Int) : (row0 cf).length = (cf.length - 1) / 2 + 1 := by rw [row0, List.length_map, ks2_len]
theorem row1_len (cf : List Int) : (row1 cf).length = cf.length / 2 := by rw [row1, List.length_map, ks2_len]
section
local macro_rules | `(tactic| k_room) => `(tactic| ktr_room)
local macro_rules | `(tactic| k_all) => `(tactic| first | with_reducible assumption | exact ne_of_l1 (by assumption) (by omega))
local macro_rules | `(tactic| k_mem) => `(tactic| assumption)
local macro_rules | `(tactic| ktr_rel) => `(tactic| (intro q hq; repeat (first | exact hq | refine List.Mem.tail _ ?_)))
local macro_rules | `(tactic| walk_at $s:str) => `(tactic| k_extra $s)
theorem one_shl {w : Nat} (h : w ≤ 900) : ((Builtin.Int.intBits 1 : Nat) : Int) + ((w : Int) - 1) ≤ 2 ^ 27 := by
  have : Builtin.Int.intBits 1 = 1 := by decide +kernel
  rw [this]; omega
theorem top_alt (ds : List Int) : ds.getD (-1 + (ds.length : Int)).toNat 0 = top ds := by
  unfold top
  congr 1; omega
theorem Stop.onM {P : Prop} (_ : Mark) (h : Stop P) : P := h
noncomputable def JInt (x : Int) (s : Shared) (v : Value) (s' : Shared) : Prop := ∃ u tk, v = .int x u ∧ s' = { s with toks := tk }
theorem jint {x y : Int} {s : Shared} {u : Tok} {tk : Nat} (e : y = x) : JInt x s (.int y u) { s with toks := tk } := ⟨u, tk, by rw [e], rfl⟩
theorem side_p {v t : Int} (e : v = t) (h : 0 < v) : 1 = sideOf t := by subst e; unfold sideOf; rw [if_pos h]
theorem side_n {v t : Int} (e : v = t) (h : ¬ 0 < v) : -1 = sideOf t := by subst e; unfold sideOf; rw [if_neg h]
theorem join_int {Mo : Model} {A : Around} {E : Value → Shared → Prop} {s : Shared} {t : Sem Value} {Q : Value → Shared → Prop} (x : Int) (h : wpAny Mo A t (JInt x s) E s)
    (hQ : ∀ u tk, Q (.int x u) { s with toks := tk }) : wpAny Mo A t Q E s :=
  wpAny_mono h (fun v s' q => by obtain ⟨u, tk, rfl, rfl⟩ := q; exact hQ u tk) fun _ _ e => e
theorem exit_ints {vt : List Value} {ts R as bs : List Int} {f : Nat} (h : IntsAre vt ts) (hT : ts ++ tail (f + 1) as bs = R) (h0 : top bs = 0) : IntsAre vt R := by
  rw [tail, if_pos h0, List.append_nil] at hT
  rw [← hT]; exact h
noncomputable def Off (st : List Str) (a b : Str) (f g : Str → Option Value) : Prop := ∀ z, z ≠ a → z ≠ b → st.contains z = false → f z = g z
section
variable {st : List Str} {a b : Str} {f g u : Str → Option Value} {v v' : Option Value}
theorem off_a (h : Off st a b f g) : Off st a b (fun y => if y = a then v else f y) g := fun z h1 h2 h3 => (if_neg h1).trans (h z h1 h2 h3)
theorem off_b (h : Off st a b f g) : Off st a b (fun y => if y = b then v else f y) g := fun z h1 h2 h3 => (if_neg h2).trans (h z h1 h2 h3)
theorem off_s {x : Str} (hx : st.contains x = true) (h : Off st a b f g) : Off st a b (fun y => if y = x then v else f y) g := fun z h1 h2 h3 => (if_neg fun e => by rw [e, hx] at h3; cases h3).trans (h z h1 h2 h3)
theorem off_end : Off st a b (fun z => if z = a then v else if z = b then v' else if st.contains z = true then u z else g z) g := fun z h1 h2 h3 => (if_neg h1).trans ((if_neg h2).trans (if_neg fun e => by rw [h3] at e; cases e))
theorem off_of {g' : Str → Option Value} (e : (fun y => if y = a then v else if y = b then v' else f y) = g') (h : Off st a b g' g) : Off st a b f g := fun z h1 h2 h3 => (((if_neg h1).trans (if_neg h2)).symm.trans (congrFun e z)).trans (h z h1 h2 h3)
theorem off_ps {va vb : Value} (h : Off st a b f g) : ∀ z, (∀ p ∈ [(a, va), (b, vb)], z ≠ p.1) → st.contains z = false → f z = g z := fun z h1 h3 => h z (h1 _ (.head _)) (h1 _ (.tail _ (.head _))) h3
end
structure D7S where
  p37 : Array Value
  p30 : Array Value
  cd : List (Addr × Obj)
  la : Nat
  lb : Nat
  va : List Value
  vb : List Value
  vt : List Value
  ea : Nat
  eb : Nat
  et : Nat
  as : List Int
  bs : List Int
  ts : List Int
structure D7F (rest : List (Addr × Obj)) (lt LX : Nat) (c : D7S) : Prop where
  s37 : TabSt 47 4 (Str.ofString "_digits2int.<locals>.inner") c.cd c.p37
  s30 : TabSt 32 4 (Str.ofString "_int2digits.<locals>.inner") c.cd c.p30
  n37 : ∀ q ∈ c.cd, q.1 ≠ 37
  n30 : ∀ q ∈ c.cd, q.1 ≠ 30
  nt : ∀ q ∈ c.cd, q.1 ≠ lt
  a37 : c.la ≠ 37
  a30 : c.la ≠ 30
  at' : c.la ≠ lt
  b37 : c.lb ≠ 37
  b30 : c.lb ≠ 30
  bt : c.lb ≠ lt
  sub : ∀ q ∈ rest, q ∈ c.cd
  ia : IntsAre c.va c.as
  ib : IntsAre c.vb c.bs
  it : IntsAre c.vt c.ts
theorem tops_spec {prog : Program} {w : World} {p : Program} {loose : List Str} {mean : ExcName → Option Value} {mg mb : Str → Option Value}
 (dp un : Nat) (gd : Option (List Code)) (cn : Str) (cs : Scope) (ad : Addr) (ccd : Value) (cl : List (Str × Addr)) (outer : List Env) (A₀ : Around) (base h₀ : Heap) (L : Addr) (m : Str → Option Value) (s : Shared) (Q E : Value → Shared → Prop)
 (B : Below A₀ base outer h₀) (F : Fr h₀ L s.heap m) (KX : (hd.heap_39 w.params).In h₀) (T : Top p loose mean mg mb h₀) (hk : cs.kind = .function) (C34 : CodeHd base 34 30) (C41 : CodeHd base 41 37)
 (p37 p30 : Array Value) (rest : List (Addr × Obj)) (N : News h₀ L s.heap ((37, tabObj p37) :: (30, tabObj p30) :: rest)) (r37 : ∀ q ∈ rest, q.1 ≠ 37) (r30 : ∀ q ∈ rest, q.1 ≠ 30)
 (S37 : TabSt 47 4 (Str.ofString "_digits2int.<locals>.inner") rest p37) (S30 : TabSt 32 4 (Str.ofString "_int2digits.<locals>.inner") rest p30)
 (l1 : Nat) (vs1 : List Value) (e1 : Nat) (cf : List Int) (m1 : (l1, PySem.W.listOf vs1.toArray e1) ∈ rest) (i1 : IntsAre vs1 cf) (hl5 : 5 ≤ cf.length) (hl7 : cf.length ≤ 7)
 (wd : Nat) (tw : Tok) (hw1 : 1 ≤ wd) (hw2 : wd ≤ 900) (M : Int) (hR : RInv M (2 ^ wd) (cf.length - 1) 0 (row0 cf) (row1 cf))
 (hdp : dp + 400 < recursionLimit) (hu : un + 4000 < cLine)
 (hQ : ∀ (l : Nat) (vs : List Value) (e : Nat) (h' : Heap) (tk' : Nat) (q37 q30 : Array Value), Fr h₀ L h' m → News h₀ L h' ((l, PySem.W.listOf vs.toArray e) :: (37, tabObj q37) :: (30, tabObj q30) :: rest) → IntsAre vs (top (row0 cf) :: tail ((row0 cf).length + (row1 cf).length + 1) (row0 cf) (row1 cf)) → Q (.ref l) { s with heap := h', toks := tk' }) :
 wpAny (model prog w) (ktrTop dp un gd cn cs L ad ccd cl outer) (call (.ref 68) [.ref l1, .int (wd : Int) tw]) Q E s := by
  have kf : PySem.Challenge.rw_wn0139_01.Holds → Mine.hd.heap_39 = Mine.hd.heap_39 := (by k_fill; exact fun _ => rfl)
  clear kf
  obtain ⟨ck, cnm, c3, c4, c5⟩ := cs
  dsimp only at hk
  subst hk
  k_with_none
  k_with "call ref" => refine Stop.on ?_
  k_with "compareOp NotEq ref ref" => (k_here; k_dflt (refine' nenil_op (by k_asm) (by k_mem) (by k_extra "ints") (by k_mem) (by ktr_units) ?_))
  k_with "call builtin:abs" => (k_here; refine abs_op ?_; intro _ _ _ _)
  k_with "binaryOp Add ref ref" => (k_here; k_dflt (refine' cat_op (by k_asm) (by k_asm) (by k_mem) (by k_extra "ints") (by k_mem) (by k_extra "ints") (by k_extra "len") (by k_extra "len") ?_); intro _ _ _ _ _ g9 _; (try k_lt g9); (try (revert g9; intro _)))
  k_with "exec If" => ((with_reducible show wpAny _ _ (exec (Stmt.If (Expr.Compare (Expr.BinOp (Expr.Constant _ _ _) _ _ _) _ _ _) _ _ _) _) _ _ _); (rename Mark => hM9); refine Stop.on ?_)
  k_with "eval IfExp" => ((rename Mark => hM9); refine Stop.on ?_)
  k_with "exec While BoolOp" => refine Stop.on ?_
  k_with "exec While" => refine Stop.on ?_
  k_with "exec While BoolOp cons nil" => refine Stop.on ?_
  k_with "exec While BoolOp cons" => refine Stop.on ?_
  k_with "call builtin:len" => (k_here; k_dflt (refine' len_op (by k_asm) (by k_mem) (by k_extra "ints") (by k_extra "len") ?_))
  k_with "exec Assign cons ListComp" => (k_here; (with_reducible show wpAny _ _ (exec (Stmt.Assign _ (Expr.ListComp _ [⟨_, Expr.Call (Expr.Name (Str.ofString "range") _) _ _ _, _, _⟩] _ _) _) _) _ _ _); k_dflt (refine comp_step (by k_asm) (by rfl) (by with_unfolding_all rfl) (by with_unfolding_all rfl) (by decide) (by rfl) (by decide) (by rfl) (by rfl) (by rfl) ?_))
  k_with "subscriptTail" => (k_here; (with_reducible show wpAny _ _ (subscriptTail _ _ (Value.ref _) (Value.int _ _)) _ _ _); first | (k_dflt (refine' item_op (by k_asm) (by k_mem) (by k_extra "ints") (by omega) (by omega) (by omega) ?_ (by with_unfolding_all rfl)); intro _ t9 _) | (k_dflt (refine' last_op (by k_asm) (by k_mem) (by k_extra "ints") (by first | omega | exact len_pos (by assumption) | fail) (by omega) ?_ (by with_unfolding_all rfl)); intro t9))
  k_with "exec Assign cons ListComp" => (k_here; (with_reducible show wpAny _ _ (exec (Stmt.Assign _ (Expr.ListComp _ [⟨_, Expr.Call (Expr.Name (Str.ofString "_int2digits") _) _ _ _, _, _⟩] _ _) _) _) _ _ _); k_dflt (refine LCg.Assign_ListComp_U (by k_asm) (by rfl) (by with_unfolding_all rfl) (by with_unfolding_all rfl) (by decide) (by rfl) (by decide) (by rfl) (by rfl) (by rfl) ?_))
  k_with "CompSrc" => refine Stop.on ?_
  k_with "call builtin:list.append" => refine Stop.on ?_
  k_with "binaryOp Mult int int" => (k_here; refine mul_op (by k_extra "mul") ?_; intro _ _ _)
  k_with "binaryOp LShift int int" => (k_here; refine shl_op (by k_extra "shl0") (by k_extra "shl1") ?_; intro _ _ _)
  k_with "binaryOp Mult ref int" => (k_here; k_dflt (refine' rep_op (by k_asm) (by k_asm) (by k_mem) (by k_extra "rep0") (by k_extra "rep1") ?_); intro _ _ _ _ _ g9 _; (try k_lt g9); (try (revert g9; intro _)))
  k_with "ints" => first | exact i1
  k_with "len" => omega
  k_with "shl0" => omega
  k_with "shl1" => exact one_shl hw2
  w_strict (
    refine wpAny_call ?_
    k_dflt k_enter
    refine opq fun QQ0 hq0 => ?_
    k_steps
    rename_i gX LX hX tkX FGX BX XX TX lX oX1 oX2 dX1 dX2 hf th eh hy1 oH dH hy2 F0 N0 hy3 tky t1 u1 v1 R1 F1 N1 a1
    k_dflt (
     refine' Src2.intro ?hhA F1 N1 R1 ?smA (rs0 hl5 hl7) ?szA ?_)
    case hhA => rfl
    case smA => exact sm0 hl5 hl7
    case szA => rw [PySem.sizeLine_eq]; omega
    intro gA
    k_dflt (
     refine' kcf_rest (fun k => cf.getD k.toNat 0) (ks2_len _ _ _) ks2_at (fun k' t' I' oI' C' oC' D' m' ys' h' tk' E' hk' hC' hx' F' N' off' ne' hMark' => ?turnA) ?finA)
    case turnA =>
      have hkk := ks0_in hl5 hl7 hk'
      clear hk'
      k_steps
      exact kcf_el (Eq.symm (by assumption)) rfl rfl
    case finA =>
      show ∀ _, _
      intro ysA iA D1 hA tkA FA NA offA
      k_steps
      rename_i t2 u2 v2 R2 F2 N2 a2
      k_dflt (
       refine' Src2.intro ?hhB F2 N2 R2 ?smB (rs1 hl5 hl7) ?szB ?_)
      case hhB => rfl
      case smB => exact sm1 hl5 hl7
      case szB => rw [PySem.sizeLine_eq]; omega
      intro gB
      k_dflt (
       refine' kcf_rest (fun k => cf.getD k.toNat 0) (ks2_len _ _ _) ks2_at (fun k' t' I' oI' C' oC' D' m' ys' h' tk' E' hk' hC' hx' F' N' off' ne' hMark' => ?turnB) ?finB)
      case turnB =>
        have hkk := ks1_in hl5 hl7 hk'
        clear hk'
        k_steps
        exact kcf_el (Eq.symm (by assumption)) rfl rfl
      case finB =>
        show ∀ _, _
        intro ysB iB D2 hB tkB FB NB offB
        have iA' : IntsAre ysA (row0 cf) := iA
        have iB' : IntsAre ysB (row1 cf) := iB
        have hlA := row0_len cf
        have hlB := row1_len cf
        clear iA iB
        k_with "ints" => first | exact i1 | exact iA' | exact iB'
        k_steps
        rename_i tt lt hz1 llt hz2 F3 N3
        rw [top_alt] at N3
        have h37t : lt ≠ 37 := Nat.ne_of_gt llt.2.2.2.2.1
        have h30t : lt ≠ 30 := Nat.ne_of_gt llt.2.2.2.2.2.1
        have hc37 : LX + 1 + 1 ≠ 37 := Nat.ne_of_gt (Nat.lt_succ_of_lt (Nat.lt_succ_of_lt lX.1))
        have hc30 : LX + 1 + 1 ≠ 30 := Nat.ne_of_gt (Nat.lt_succ_of_lt (Nat.lt_succ_of_lt lX.2.1))
        refine Stop.off ?_
        k_dflt (
         refine' ksw_while (σ := D7S) (fun c => (lt, PySem.W.listOf c.vt.toArray c.et) :: (c.lb, PySem.W.listOf c.vb.toArray c.eb) :: (c.la, PySem.W.listOf c.va.toArray c.ea) :: (LX + 1 + 1, oH) :: (37, tabObj c.p37) :: (30, tabObj c.p30) :: c.cd)
          (fun c => [(Str.ofString "above", Value.ref c.la), (Str.ofString "below", Value.ref c.lb)]) (fun c => D7F rest lt LX c)
          [Str.ofString "side", Str.ofString "upper", Str.ofString "lower", Str.ofString "quotient", Str.ofString "rest", Str.ofString "halves", Str.ofString "row"]
          (fun c => ∃ k, RInv M (2 ^ wd) (cf.length - 1) k c.as c.bs ∧ c.ts ++ tail (c.as.length + c.bs.length + 1) c.as c.bs = top (row0 cf) :: tail ((row0 cf).length + (row1 cf).length + 1) (row0 cf) (row1 cf) ∧ c.ts.length = k + 1)
          (fun c => c.as.length + c.bs.length) ⟨p37, p30, rest, D1, D2, ysA, ysB, [.int (top (row0 cf)) tt], ysA.length, ysB.length, 0, row0 cf, row1 cf, [top (row0 cf)]⟩ F3 ?wN ?wF ?wk ?wP ?wT ?wE)
        case wN => exact news_sub N3 (List.forall_mem_cons.mpr ⟨.head _, List.forall_mem_cons.mpr ⟨.tail _ (.head _), List.forall_mem_cons.mpr ⟨.tail _ (.tail _ (.head _)), List.forall_mem_cons.mpr ⟨.tail _ (.tail _ (.tail _ (.head _))), fun q hq => .tail _ (.tail _ (.tail _ (.tail _ (.tail _ hq))))⟩⟩⟩⟩)
        case wF => exact ⟨S37, S30, r37, r30, fun q hq => Nat.ne_of_lt (ktn_ltOf llt.2.2.2.2.2.2 q hq), fun e => offA.2.2.1 e.symm, fun e => offA.2.2.2.1 e.symm, Nat.ne_of_lt llt.2.1, fun e => offB.2.2.2.1 e.symm, fun e => offB.2.2.2.2.1 e.symm, Nat.ne_of_lt llt.1, fun _ h => h, iA', iB', .cons _ _ .nil⟩
        case wk => exact List.forall_mem_cons.mpr ⟨by with_unfolding_all rfl, List.forall_mem_cons.mpr ⟨by with_unfolding_all rfl, List.forall_mem_nil _⟩⟩
        case wP => exact ⟨0, hR, rfl, rfl⟩
        case wE => passes_own
        case wT =>
          intro c u h tk hF hP F4 N4
          dsimp only [kstB] at F4
          obtain ⟨k, hI, hT, hK⟩ := hP
          have hln := hI.sum
          have hln2 := hI.n6
          have hle := hI.le
          k_with "ints" => first | exact hF.ia | exact hF.ib | exact hF.it | assumption
          k_with "len" => first | omega | (simp only [List.length_replicate]; omega)
          k_with "rep0" => omega
          k_with "rep1" => omega
          k_with "mul" => first | exact mulA hI (by assumption) hw2 (by assumption) rfl (by assumption) | exact IntMulOk.of_left (side_bits _) | exact IntMulOk.of_right (side_bits _) | exact IntMulOk.of_left (intBits_le_64 (by omega) (by omega))
          obtain ⟨uu, huu, F5⟩ := fr_cut F4 (fun uu y => if y = Str.ofString "above" then some (Value.ref c.la) else if y = Str.ofString "below" then some (Value.ref c.lb) else if y = Str.ofString "tops" then some (Value.ref lt) else if y = Str.ofString "wide" then some (Value.int (wd : Int) tw) else uu y) (put_eq (by with_unfolding_all rfl) (put_eq (by with_unfolding_all rfl) (put_eq (by with_unfolding_all rfl) (put_eq (by with_unfolding_all rfl) rfl))))
          clear F4
          have hM := mark
          refine opq fun QB hqB => ?_
          k_steps
          all_goals try (refine hqB false _ ?_; clear hqB; k_steps; refine hq0 _ _ ?_; k_steps; exact hQ lt c.vt c.et _ _ c.p37 c.p30 (by k_asm) (news_sub (by k_asm) (List.forall_mem_cons.mpr ⟨by k_mem, List.forall_mem_cons.mpr ⟨by k_mem, List.forall_mem_cons.mpr ⟨by k_mem, fun q hq => .tail _ (.tail _ (.tail _ (.tail _ (.tail _ (.tail _ (.tail _ (hF.sub q hq))))))) ⟩⟩⟩)) (exit_ints hF.it hT (by first | assumption | (rw [‹c.bs = []›]; rfl))))
          refine hqB true _ ?_
          clear hqB
          rw [if_pos rfl]
          refine opq fun QQ hqq => ?_
          k_steps
          have t0 : top c.bs ≠ 0 := by assumption
          have ha1 := (hI.a1 t0).2
          refine Stop.off ?_
          refine join_int (sideOf (top c.bs)) ?j1 ?j2
          case j1 =>
            (rename Mark => hM9); clear hM9
            k_steps
            · exact jint (side_p rfl (by assumption))
            · exact jint (side_n rfl (by assumption))
          case j2 =>
            intro ts tks
            k_steps
            refine Stop.off ?_
            k_dflt (refine' d2i_spec _ _ _ _ _ _ _ _ _ _ _ _ _ _ _ _ _ ?B1 ?F1 ?X1 ?T1 ?hk1 C41 c.p37 c.p30 ((lt, PySem.W.listOf c.vt.toArray c.et) :: (c.lb, PySem.W.listOf c.vb.toArray c.eb) :: (c.la, PySem.W.listOf c.va.toArray c.ea) :: (LX + 1 + 1, oH) :: c.cd) ?N1 ?r371 ?S371 c.la c.va c.ea c.as _ _ ?hl1 ?hn1 ?hn21 ?hi1 ?hlen1 ?hbits1 ?hdp1 ?hu1 ?_; (case B1 => k_asm); (case F1 => k_asm); (case X1 => k_asm); (case T1 => k_asm); (case hk1 => exact rfl))
            case N1 => exact news_sub (by k_asm) (List.forall_mem_cons.mpr ⟨by k_mem, List.forall_mem_cons.mpr ⟨by k_mem, List.forall_mem_cons.mpr ⟨by k_mem, List.forall_mem_cons.mpr ⟨by k_mem, List.forall_mem_cons.mpr ⟨by k_mem, List.forall_mem_cons.mpr ⟨by k_mem, by ktr_rel⟩⟩⟩⟩⟩⟩)
            case r371 => exact List.forall_mem_cons.mpr ⟨h37t, List.forall_mem_cons.mpr ⟨hF.b37, List.forall_mem_cons.mpr ⟨hF.a37, List.forall_mem_cons.mpr ⟨hc37, hF.n37⟩⟩⟩⟩
            case S371 => exact hF.s37.up fun q hq => .tail _ (.tail _ (.tail _ (.tail _ hq)))
            case hl1 => exact .tail _ (.tail _ (.head _))
            case hn1 => exact Int.natCast_nonneg _
            case hn21 => omega
            case hi1 => exact hF.ia
            case hlen1 => omega
            case hbits1 => exact seg_bits2 (by omega) (by omega) (hI.sa t0)
            case hdp1 => ktr_room
            case hu1 => ktr_units
            intro q5 t5 h5 tk5 ca oa cva tqa F5 N5 dca dva ka1 ka2 e5
            (try dsimp only); (try k_fold)
            k_steps
            rename_i lp wsp hp Fp Np ip gp
            have hU : _ = ((top c.bs).natAbs : Int) * ev (2 ^ wd) c.as := U_eq e5 (by assumption) (by assumption) rfl
            subst hU
            have ip' := pad_of hle ip
            refine Stop.off ?_
            k_dflt (refine' d2i_spec _ _ _ _ _ _ _ _ _ _ _ _ _ _ _ _ _ ?B2 ?F2 ?X2 ?T2 ?hk2 C41 #[rawInt 47, rawInt 4, .ref ca] c.p30 ((lp, PySem.W.listOf wsp.toArray 0) :: (ca, oa) :: (lt, PySem.W.listOf c.vt.toArray c.et) :: (c.lb, PySem.W.listOf c.vb.toArray c.eb) :: (c.la, PySem.W.listOf c.va.toArray c.ea) :: (LX + 1 + 1, oH) :: c.cd) ?N2 ?r372 ?S372 lp wsp 0 (pad c.as c.bs) _ _ ?hl2 ?hn2 ?hn22 ?hi2 ?hlen2 ?hbits2 ?hdp2 ?hu2 ?_; (case B2 => k_asm); (case F2 => k_asm); (case X2 => k_asm); (case T2 => k_asm); (case hk2 => exact rfl))
            case N2 => exact news_sub (by k_asm) (List.forall_mem_cons.mpr ⟨by k_mem, List.forall_mem_cons.mpr ⟨by k_mem, List.forall_mem_cons.mpr ⟨by k_mem, List.forall_mem_cons.mpr ⟨by k_mem, List.forall_mem_cons.mpr ⟨by k_mem, List.forall_mem_cons.mpr ⟨by k_mem, List.forall_mem_cons.mpr ⟨by k_mem, List.forall_mem_cons.mpr ⟨by k_mem, by ktr_rel⟩⟩⟩⟩⟩⟩⟩⟩)
            case r372 => exact List.forall_mem_cons.mpr ⟨Nat.ne_of_gt gp.2.2.2.1, List.forall_mem_cons.mpr ⟨ka1, List.forall_mem_cons.mpr ⟨h37t, List.forall_mem_cons.mpr ⟨hF.b37, List.forall_mem_cons.mpr ⟨hF.a37, List.forall_mem_cons.mpr ⟨hc37, hF.n37⟩⟩⟩⟩⟩⟩
            case S372 => exact .has ka1 ka2 (.tail _ (.head _)) dca dva
            case hl2 => exact .head _
            case hn2 => exact Int.natCast_nonneg _
            case hn22 => omega
            case hi2 => exact ip'
            case hlen2 => rw [pad_len hle]; omega
            case hbits2 => exact seg_bits2 (by rw [pad_len hle]; omega) (by omega) (pad_small hI.X0 (hI.row t0).sb)
            case hdp2 => ktr_room
            case hu2 => ktr_units
            intro q6 t6 h6 tk6 cb ob cvb tqb F6 N6 dcb dvb kb1 kb2 e6
            (try dsimp only); (try k_fold)
            k_steps
            have hla4 := hI.la
            have e6' : q6 = ev (2 ^ wd) (pad c.as c.bs) := e6
            clear e6
            subst e6'
            refine Stop.off ?_
            k_dflt (refine' idm ?hb3 ?hba3 ?hbb3 ?hD3 _ _ _ _ _ _ _ _ _ _ _ _ _ _ _ _ _ _ _ ?B3 ?F3 ?X3 ?T3 ?hk3 C34 C41 #[rawInt 47, rawInt 4, .ref cb] c.p30 ((cb, ob) :: (lt, PySem.W.listOf c.vt.toArray c.et) :: (c.lb, PySem.W.listOf c.vb.toArray c.eb) :: (c.la, PySem.W.listOf c.va.toArray c.ea) :: (LX + 1 + 1, oH) :: c.cd) ?N3 ?r373 ?r303 ?S373 ?S303 ?hdp3 ?hu3 ?_; (case B3 => k_asm); (case F3 => k_asm); (case X3 => k_asm); (case T3 => k_asm); (case hk3 => exact rfl))
            case hb3 => exact (div_row (hI.row t0) rfl rfl rfl rfl).1
            case hba3 => exact Nat.le_trans (hI.ub t0) (w_le hw2 (k := 5) (by omega) (by decide))
            case hbb3 => exact Nat.le_trans (hI.lb t0) (w_le hw2 hla4 (by decide))
            case hD3 => exact hI.hD t0 hw1 hw2
            case N3 => exact news_sub (by k_asm) (List.forall_mem_cons.mpr ⟨by k_mem, List.forall_mem_cons.mpr ⟨by k_mem, List.forall_mem_cons.mpr ⟨by k_mem, List.forall_mem_cons.mpr ⟨by k_mem, List.forall_mem_cons.mpr ⟨by k_mem, List.forall_mem_cons.mpr ⟨by k_mem, List.forall_mem_cons.mpr ⟨by k_mem, by ktr_rel⟩⟩⟩⟩⟩⟩⟩)
            case r373 => exact List.forall_mem_cons.mpr ⟨kb1, List.forall_mem_cons.mpr ⟨h37t, List.forall_mem_cons.mpr ⟨hF.b37, List.forall_mem_cons.mpr ⟨hF.a37, List.forall_mem_cons.mpr ⟨hc37, hF.n37⟩⟩⟩⟩⟩
            case r303 => exact List.forall_mem_cons.mpr ⟨kb2, List.forall_mem_cons.mpr ⟨h30t, List.forall_mem_cons.mpr ⟨hF.b30, List.forall_mem_cons.mpr ⟨hF.a30, List.forall_mem_cons.mpr ⟨hc30, hF.n30⟩⟩⟩⟩⟩
            case S373 => exact .has kb1 kb2 (.head _) dcb dvb
            case S303 => exact hF.s30.up (fun q hq => .tail _ (.tail _ (.tail _ (.tail _ (.tail _ hq)))))
            case hdp3 => ktr_room
            case hu3 => ktr_units
            intro t7 t71 t72 h7 tk7 d1 d2 od1 od2 cvd1 cvd2 tqd1 tqd2 F7 N7 dcd1 dvd1 dcd2 dvd2 kd1 kd2 kd3 kd4
            (try dsimp only); (try k_fold)
            have hdr := div_row (U := ((top c.bs).natAbs : Int) * ev (2 ^ wd) c.as) (Lw := ev (2 ^ wd) (pad c.as c.bs)) (hI.row t0) rfl rfl rfl rfl
            generalize hLw : ev (2 ^ wd) (pad c.as c.bs) = Lw at *
            generalize hqq : Int.fdiv (((top c.bs).natAbs : Int) * ev (2 ^ wd) c.as) Lw = q at *
            generalize hrr : Int.fmod (((top c.bs).natAbs : Int) * ev (2 ^ wd) c.as) Lw = r at *
            obtain ⟨hL0, hs1, hs2, hdr⟩ := hdr
            k_steps
            rename_i FI NI c91 t91 e91 c92 t92 e92 yI uI tkI eI
            refine Stop.off ?_
            refine join_if FI (Str.ofString "rest") (Str.ofString "quotient") (ev (2 ^ wd) (nxt c.as c.bs)) (sideOf (top c.bs) * top c.as) ((d1, od1) :: (37, tabObj #[rawInt 47, rawInt 4, .ref d1]) :: (d2, od2) :: (30, tabObj #[rawInt 32, rawInt 4, .ref d2]) :: (lt, PySem.W.listOf c.vt.toArray c.et) :: (c.lb, PySem.W.listOf c.vb.toArray c.eb) :: (c.la, PySem.W.listOf c.va.toArray c.ea) :: (LX + 1 + 1, oH) :: c.cd) ?k1 ?k2
            case k1 =>
              (rename Mark => hM9); clear hM9
              rcases hdr with ⟨hc1, hc2, hc3⟩ | ⟨hc1, hc2, hc3⟩
              · k_steps
                refine jfr FI NI (List.forall_mem_cons.mpr ⟨by k_mem, List.forall_mem_cons.mpr ⟨by k_mem, List.forall_mem_cons.mpr ⟨by k_mem, List.forall_mem_cons.mpr ⟨by k_mem, List.forall_mem_cons.mpr ⟨by k_mem, by ktr_rel⟩⟩⟩⟩⟩) (by rw [← hc3]; with_unfolding_all rfl) (by rw [← hc2]; with_unfolding_all rfl) (fun _ _ _ => rfl)
              · k_steps
                rename_i FJ NJ
                refine jfr FJ NJ (List.forall_mem_cons.mpr ⟨by k_mem, List.forall_mem_cons.mpr ⟨by k_mem, List.forall_mem_cons.mpr ⟨by k_mem, List.forall_mem_cons.mpr ⟨by k_mem, List.forall_mem_cons.mpr ⟨by k_mem, by ktr_rel⟩⟩⟩⟩⟩) (by rw [← hc3]; with_unfolding_all rfl) (by rw [← hc2]; with_unfolding_all rfl) (fun z z1 z2 => by simp only [z1, z2, if_false])
            case k2 =>
              intro tr tq hI5 tk8 F8 N8
              (try dsimp only at F8)
              clear hqq hrr FI NI e91 e92 eI hs1 hs2 hdr hL0
              have hh : (2 : Int) ^ wd = 2 * hf := by rw [eh]; exact half_eq hw1
              have hf0 : 0 ≤ hf ∧ hf < 2 ^ wd := by
                have hp2 : (0 : Int) < 2 ^ wd := Int.pow_pos (by decide)
                omega
              have hrow := row_of hle hw1 hh (hI.row t0).sn
              k_steps
              all_goals try (exact absurd (Eq.symm (by assumption)) (by assumption))
              rename_i lh wsh hh2 Fh Nh ih gh
              have ih' := rep_of ha1 ih
              refine Stop.off ?_
              k_dflt (refine' d2i_spec _ _ _ _ _ _ _ _ _ _ _ _ _ _ _ _ _ ?B4 ?F4 ?X4 ?T4 ?hk4 C41 #[rawInt 47, rawInt 4, .ref d1] #[rawInt 32, rawInt 4, .ref d2] ((lh, PySem.W.listOf wsh.toArray 0) :: (d1, od1) :: (d2, od2) :: (lt, PySem.W.listOf c.vt.toArray c.et) :: (c.lb, PySem.W.listOf c.vb.toArray c.eb) :: (c.la, PySem.W.listOf c.va.toArray c.ea) :: (LX + 1 + 1, oH) :: c.cd) ?N4 ?r374 ?S374 lh wsh 0 (List.replicate (c.as.length - 1) hf) _ _ ?hl4 ?hn4 ?hn24 ?hi4 ?hlen4 ?hbits4 ?hdp4 ?hu4 ?_; (case B4 => k_asm); (case F4 => k_asm); (case X4 => k_asm); (case T4 => k_asm); (case hk4 => exact rfl))
              case N4 => exact news_sub (by k_asm) (List.forall_mem_cons.mpr ⟨by k_mem, List.forall_mem_cons.mpr ⟨by k_mem, List.forall_mem_cons.mpr ⟨by k_mem, List.forall_mem_cons.mpr ⟨by k_mem, List.forall_mem_cons.mpr ⟨by k_mem, List.forall_mem_cons.mpr ⟨by k_mem, List.forall_mem_cons.mpr ⟨by k_mem, List.forall_mem_cons.mpr ⟨by k_mem, List.forall_mem_cons.mpr ⟨by k_mem, by ktr_rel⟩⟩⟩⟩⟩⟩⟩⟩⟩)
              case r374 => exact List.forall_mem_cons.mpr ⟨Nat.ne_of_gt (by first | exact gh.2.2.2.1 | exact gh.2.2.1 | exact gh.2.2.2.2.1), List.forall_mem_cons.mpr ⟨kd1, List.forall_mem_cons.mpr ⟨kd3, List.forall_mem_cons.mpr ⟨h37t, List.forall_mem_cons.mpr ⟨hF.b37, List.forall_mem_cons.mpr ⟨hF.a37, List.forall_mem_cons.mpr ⟨hc37, hF.n37⟩⟩⟩⟩⟩⟩⟩
              case S374 => exact .has kd1 kd2 (.tail _ (.head _)) dcd1 dvd1
              case hl4 => exact .head _
              case hn4 => exact Int.natCast_nonneg _
              case hn24 => omega
              case hi4 => exact ih'
              case hlen4 => rw [List.length_replicate]; omega
              case hbits4 => exact seg_bits (by rw [List.length_replicate]; omega) (by omega) fun d hd => by rw [(List.mem_replicate.mp hd).2]; exact hf0
              case hdp4 => ktr_room
              case hu4 => ktr_units
              intro q9 t9 h9 tk9 d3 od3 cvd3 tqd3 F9 N9 dcd3 dvd3 kd5 kd6 e9
              have e9' : q9 = ev (2 ^ wd) (List.replicate (c.as.length - 1) hf) := e9
              clear e9
              subst e9'
              (try dsimp only); (try k_fold)
              k_steps
              refine Stop.off ?_
              k_dflt (refine' i2d_spec _ _ _ _ _ _ _ _ _ _ _ _ _ _ _ _ _ ?B5 ?F5 ?X5 ?T5 ?hk5 C34 #[rawInt 47, rawInt 4, .ref d3] #[rawInt 32, rawInt 4, .ref d2] ((d3, od3) :: (d2, od2) :: (lt, PySem.W.listOf c.vt.toArray c.et) :: (c.lb, PySem.W.listOf c.vb.toArray c.eb) :: (c.la, PySem.W.listOf c.va.toArray c.ea) :: (LX + 1 + 1, oH) :: c.cd) ?N5 ?r305 ?S305 _ _ _ _ ?hx5 ?hn5 ?hn25 ?hbx5 ?hD5 ?hdp5 ?hu5 ?_; (case B5 => k_asm); (case F5 => k_asm); (case X5 => k_asm); (case T5 => k_asm); (case hk5 => exact rfl))
              case N5 => exact news_sub (by k_asm) (List.forall_mem_cons.mpr ⟨by k_mem, List.forall_mem_cons.mpr ⟨by k_mem, List.forall_mem_cons.mpr ⟨by k_mem, List.forall_mem_cons.mpr ⟨by k_mem, List.forall_mem_cons.mpr ⟨by k_mem, List.forall_mem_cons.mpr ⟨by k_mem, List.forall_mem_cons.mpr ⟨by k_mem, List.forall_mem_cons.mpr ⟨by k_mem, by ktr_rel⟩⟩⟩⟩⟩⟩⟩⟩)
              case r305 => exact List.forall_mem_cons.mpr ⟨kd6, List.forall_mem_cons.mpr ⟨kd4, List.forall_mem_cons.mpr ⟨h30t, List.forall_mem_cons.mpr ⟨hF.b30, List.forall_mem_cons.mpr ⟨hF.a30, List.forall_mem_cons.mpr ⟨hc30, hF.n30⟩⟩⟩⟩⟩⟩
              case S305 => exact .has kd3 kd4 (.tail _ (.head _)) dcd2 dvd2
              case hx5 => exact hrow.1
              case hn5 => omega
              case hn25 => omega
              case hbx5 => exact Nat.le_trans hrow.2.2.1 (w_le hw2 (k := 4) (by omega) (by decide))
              case hD5 => exact Int.lt_of_le_of_lt (Int.le_of_eq hrow.2.1) (by omega)
              case hdp5 => ktr_room
              case hu5 => ktr_units
              intro lr vr er h10 tk10 d4 od4 cvd4 tqd4 F10 N10 dcd4 dvd4 kd7 kd8 gr gr37 gr30 ner ir
              (try dsimp only); (try k_fold)
              k_steps
              refine Stop.off ?_
              k_dflt (refine' LCg.CompSrc.ledger (its := vr.toArray) (k := er) ?hh6 ?F6 ?N6 ?m6 ?sz6 ?_; (case hh6 => rfl); (case F6 => k_asm); (case N6 => k_asm); (case m6 => k_mem); (case sz6 => rw [List.size_toArray, ir.length, dg_len, PySem.sizeLine_eq]; have z := hrow.2.1; omega))
              intro gC
              k_dflt (
               refine' kcf_list (fun d => d - hf) ir (fun k' t' I' oI' C' oC' D' m' ys' h' tk' E' hk' hC' hx' F' N' off' ne' hMark' => ?turnC) ?finC)
              case turnC =>
                clear hk'
                k_steps
              case finC =>
                show ∀ _, _
                intro ysR iR DR hR tkR FR NR offR
                have iR' : IntsAre ysR (nxt c.as c.bs) := by
                  have z : IntsAre ysR (List.map (fun d => d - hf) (dg (2 ^ wd) (((Builtin.Int.intBits (ev (2 ^ wd) (nxt c.as c.bs) + ev (2 ^ wd) (List.replicate (c.as.length - 1) hf)) : Int) + (wd : Int) - 1) / (wd : Int)).toNat (ev (2 ^ wd) (nxt c.as c.bs) + ev (2 ^ wd) (List.replicate (c.as.length - 1) hf)))) := iR
                  have z2 := hrow.2.2.2
                  rw [z2] at z
                  exact z
                have hRt : DR ≠ lt := fun e => offR.2.2.2.2.2.2.1 e.symm
                have hR37 : DR ≠ 37 := fun e => offR.2.2.1 e.symm
                have hR30 : DR ≠ 30 := fun e => offR.2.2.2.1 e.symm
                k_steps
                refine Stop.off ?_
                (rename News _ _ _ _ => NQ)
                have NL : News gX LX _ ((DR, LCg.lst ysR) :: (lt, PySem.W.listOf c.vt.toArray c.et) :: (c.lb, PySem.W.listOf c.vb.toArray c.eb) :: (c.la, PySem.W.listOf c.va.toArray c.ea) :: (LX + 1 + 1, oH) :: (37, tabObj #[rawInt 47, rawInt 4, .ref d3]) :: (30, tabObj #[rawInt 32, rawInt 4, .ref d4]) :: (d3, od3) :: (d4, od4) :: c.cd) := news_sub NQ (List.forall_mem_cons.mpr ⟨by k_mem, List.forall_mem_cons.mpr ⟨by k_mem, List.forall_mem_cons.mpr ⟨by k_mem, List.forall_mem_cons.mpr ⟨by k_mem, List.forall_mem_cons.mpr ⟨by k_mem, List.forall_mem_cons.mpr ⟨by k_mem, List.forall_mem_cons.mpr ⟨by k_mem, List.forall_mem_cons.mpr ⟨by k_mem, List.forall_mem_cons.mpr ⟨by k_mem, by ktr_rel⟩⟩⟩⟩⟩⟩⟩⟩⟩)
                have n3 := ne_code NL (c := d3) (by k_mem) dcd3 (.tail _ (.head _))
                have n4 := ne_code NL (c := d4) (by k_mem) dcd4 (.tail _ (.head _))
                have UT : UpdF lt (PySem.W.listOf c.vt.toArray c.et) ((DR, LCg.lst ysR) :: (lt, PySem.W.listOf c.vt.toArray c.et) :: (c.lb, PySem.W.listOf c.vb.toArray c.eb) :: (c.la, PySem.W.listOf c.va.toArray c.ea) :: (LX + 1 + 1, oH) :: (37, tabObj #[rawInt 47, rawInt 4, .ref d3]) :: (30, tabObj #[rawInt 32, rawInt 4, .ref d4]) :: (d3, od3) :: (d4, od4) :: c.cd) (fun o' => (DR, LCg.lst ysR) :: (lt, o') :: (c.lb, PySem.W.listOf c.vb.toArray c.eb) :: (c.la, PySem.W.listOf c.va.toArray c.ea) :: (LX + 1 + 1, oH) :: (37, tabObj #[rawInt 47, rawInt 4, .ref d3]) :: (30, tabObj #[rawInt 32, rawInt 4, .ref d4]) :: (d3, od3) :: (d4, od4) :: c.cd) :=
                  .tail hRt (.head (List.forall_mem_cons.mpr ⟨hF.bt, List.forall_mem_cons.mpr ⟨hF.at', List.forall_mem_cons.mpr ⟨Nat.ne_of_lt llt.2.2.1, List.forall_mem_cons.mpr ⟨Ne.symm h37t, List.forall_mem_cons.mpr ⟨Ne.symm h30t, List.forall_mem_cons.mpr ⟨n3, List.forall_mem_cons.mpr ⟨n4, hF.nt⟩⟩⟩⟩⟩⟩⟩))
                k_dflt (refine' append_op (vs := c.vt) (ds := c.ts) ?F7 NL UT hF.it ?len7 ?_; (case F7 => k_asm); (case len7 => omega))
                intro wsT hT5 FT NT iT
                (try dsimp only at NT)
                k_steps
                rename_i FE NE
                refine hqq _ _ ?_
                clear hqq
                refine ksw_end ⟨#[rawInt 47, rawInt 4, .ref d3], #[rawInt 32, rawInt 4, .ref d4], (d3, od3) :: (d4, od4) :: c.cd, c.lb, DR, c.vb, ysR, wsT, c.eb, ysR.length, c.et + 1, c.bs, nxt c.as c.bs, c.ts ++ [top c.bs]⟩ FE NE ?es ?ef ?ek ?er ?ep ?em
                case es => exact List.forall_mem_cons.mpr ⟨.tail _ (.head _), List.forall_mem_cons.mpr ⟨.head _, List.forall_mem_cons.mpr ⟨.tail _ (.tail _ (.head _)), fun q hq => .tail _ (.tail _ (.tail _ (.tail _ hq)))⟩⟩⟩
                case ef =>
                  exact ⟨.has kd5 kd6 (.head _) dcd3 dvd3, .has kd7 kd8 (.tail _ (.head _)) dcd4 dvd4, List.forall_mem_cons.mpr ⟨kd5, List.forall_mem_cons.mpr ⟨kd7, hF.n37⟩⟩, List.forall_mem_cons.mpr ⟨kd6, List.forall_mem_cons.mpr ⟨kd8, hF.n30⟩⟩, List.forall_mem_cons.mpr ⟨n3, List.forall_mem_cons.mpr ⟨n4, hF.nt⟩⟩,
                    hF.b37, hF.b30, hF.bt, hR37, hR30, hRt, fun q hq => .tail _ (.tail _ (hF.sub q hq)), hF.ib, iR', iT⟩
                case ek => exact List.forall_mem_cons.mpr ⟨by with_unfolding_all rfl, List.forall_mem_cons.mpr ⟨by with_unfolding_all rfl, List.forall_mem_nil _⟩⟩
                case er =>
                  refine off_ps ?_
                  repeat first | with_reducible refine off_a ?_ | with_reducible refine off_b ?_ | with_reducible refine off_s (by decide) ?_
                  exact off_of huu off_end
                case ep => exact ⟨k + 1, hI.next t0, tail_step hT t0 hle ha1, by rw [List.length_append, hK]; rfl⟩
                case em => (show c.bs.length + (nxt c.as c.bs).length < c.as.length + c.bs.length); rw [nxt_len hle]; omega)
end
end Mine
end

section
/- the sum of sizes of a product: plain -/
namespace Mine
open PySem PyProof.Rows
noncomputable def n1 : List Int → Nat
  | [] => 0
  | d :: ds => d.natAbs + n1 ds
theorem n1_append : ∀ (as bs : List Int), n1 (as ++ bs) = n1 as + n1 bs
  | [], bs => by simp [n1]
  | a :: as, bs => by rw [List.cons_append, n1, n1, n1_append as bs]; omega
theorem n1_addAt : ∀ (p : List Int) (k : Nat) (v : Int), n1 (addAt p k v) ≤ n1 p + v.natAbs
  | [], _, _ => by simp [addAt, n1]
  | d :: ds, 0, v => by simp [addAt, n1]; omega
  | d :: ds, k + 1, v => by
    have ih := n1_addAt ds k v
    have e : addAt (d :: ds) (k + 1) v = d :: addAt ds k v := rfl
    rw [e, n1, n1]; omega
theorem n1_repl : ∀ n, n1 (List.replicate n 0) = 0
  | 0 => rfl
  | n + 1 => by rw [List.replicate_succ, n1, n1_repl n]; rfl
theorem n1_tmIn (as bs : List Int) (i : Nat) (p : List Int) : ∀ j, j ≤ bs.length → n1 (tmIn as bs i p j) ≤ n1 p + (as.getD i 0).natAbs * n1 (bs.take j)
  | 0, _ => by simp [tmIn, n1]
  | j + 1, h => by
    have ih := n1_tmIn as bs i p j (by omega)
    have h2 := n1_addAt (tmIn as bs i p j) (i + j) (as.getD i 0 * bs.getD j 0)
    rw [tmIn, take_snoc bs j h, n1_append, Nat.mul_add]
    have e : n1 [bs.getD j 0] = (bs.getD j 0).natAbs := by simp [n1]
    rw [e]
    rw [Int.natAbs_mul] at h2
    omega
theorem n1_tmOut (as bs : List Int) : ∀ i, i ≤ as.length → n1 (tmOut as bs i) ≤ n1 (as.take i) * n1 bs
  | 0, _ => by simp [tmOut, n1, n1_repl]
  | i + 1, h => by
    have ih := n1_tmOut as bs i (by omega)
    have h2 := n1_tmIn as bs i (tmOut as bs i) bs.length (Nat.le_refl _)
    rw [List.take_length] at h2
    rw [tmOut, take_snoc as i h, n1_append, Nat.add_mul]
    have e : n1 [as.getD i 0] = (as.getD i 0).natAbs := by simp [n1]
    rw [e]
    omega
theorem n1_times {as bs : List Int} {A B : Nat} (h1 : n1 as ≤ A) (h2 : n1 bs ≤ B) : n1 (times as bs) ≤ A * B := by
  have := n1_tmOut as bs as.length (Nat.le_refl _)
  rw [List.take_length] at this
  exact Nat.le_trans this (Nat.mul_le_mul h1 h2)
theorem n1_mem : ∀ {ds : List Int} {x : Int}, x ∈ ds → x.natAbs ≤ n1 ds
  | d :: ds, x, h => by
    rw [n1]
    rcases List.mem_cons.mp h with rfl | h
    · omega
    · have := n1_mem h; omega
theorem n1_one : n1 [1] ≤ 1 := by decide
theorem n1_single (x : Int) : n1 [x % 1000 - 120, 1] ≤ 880 := by
  simp only [n1]; omega
theorem sq_le {d : Int} {k : Nat} (h : d.natAbs ≤ k) : (d * d).natAbs ≤ k * k := by
  rw [Int.natAbs_mul]; exact Nat.mul_le_mul h h
theorem n1_double (u w : Int) : n1 [(u % 1000 - 120) * (u % 1000 - 120) + (w % 50 + 1) * (w % 50 + 1), 2 * (u % 1000 - 120), 1] ≤ 776900 := by
  have h1 := sq_le (d := u % 1000 - 120) (k := 879) (by omega)
  have h2 := sq_le (d := w % 50 + 1) (k := 50) (by omega)
  generalize hd : u % 1000 - 120 = d at *
  have h3 : d.natAbs ≤ 879 := by omega
  simp only [n1]
  generalize d * d = x at *
  generalize (w % 50 + 1) * (w % 50 + 1) = y at *
  omega
end Mine
end

section
open PySem PySem.W PySem.Spec PySem.Calls PyProof.Rows
set_option maxRecDepth 100000
set_option maxHeartbeats 0
namespace Mine
section
variable {prog : Program} {w : World} {A : Around} {E : Value → Shared → Prop} {s : Shared} {h₀ : Heap} {L l : Addr} {m : Str → Option Value} {news : List (Addr × Obj)} {value slice : PySem.Expr} {vs : List Value} {ns ms : List Int} {vl vu : Value} {lo hi : Option Int} {Q : Value → Shared → Prop}
theorem slice_op (F : Fr h₀ L s.heap m) (N : News h₀ L s.heap news) (hl : s.heap.IsList l vs.toArray) (pl : IsPart vl lo) (pu : IsPart vu hi) (hi' : IntsAre vs ns) (hm : IntsAre (slicePick vs.toArray lo hi none).toList ms) (hb : ns.length < 2 ^ 20)
    (h : ∀ D ws h', Fr h₀ L h' m → News h₀ L h' ((D, PySem.W.listOf (List.toArray ws) 0) :: news) → (∀ p ∈ news, p.1 < D) → IntsAre ws ms → Q (.ref D) { s with heap := h' })
    (hs : subscripted slice false (.ref l) (.ref s.heap.objs.size) = operate [.ref s.heap.objs.size, .ref l] (getItem (.ref l) (.ref s.heap.objs.size))) (ht : ∀ r, letTemporaryGo value (.ref l) r = pure ()) :
    wpAny (model prog w) A (subscriptTail value slice (.ref l) (.ref s.heap.objs.size)) Q E { s with heap := s.heap.push { cls := .type "slice", data := .fields #[vl, vu, .none] } } :=
  kmk_slice_ints F N hl pl pu hi' hm rfl (fun D ws h' F' N' l1 i _ _ => h D ws h' F' N' l1 i) hs ht (by rw [List.size_toArray, hi'.length, PySem.sizeLine_eq]; omega)
theorem slice_opV (F : Fr h₀ L s.heap m) (N : News h₀ L s.heap news) (hl : s.heap.IsList l vs.toArray) (pl : IsPart vl lo) (pu : IsPart vu hi) (hi' : IntsAre vs ns) (hm : IntsAre (slicePick vs.toArray lo hi none).toList ms) (hb : ns.length < 2 ^ 20)
    (h : ∀ D ws h', Fr h₀ L h' m → News h₀ L h' ((D, PySem.W.listOf (List.toArray ws) 0) :: news) → (∀ p ∈ news, p.1 < D) → IntsAre ws ms → Q (.ref D) { s with heap := h' })
    (hs : subscripted slice false (.ref l) (.ref s.heap.objs.size) = operate [.ref s.heap.objs.size, .ref l] (getItem (.ref l) (.ref s.heap.objs.size))) :
    wpAny (model prog w) A (subscriptTail value slice (.ref l) (.ref s.heap.objs.size)) Q E { s with heap := s.heap.push { cls := .type "slice", data := .fields #[vl, vu, .none] } } :=
  kba_turn (value' := PySem.Expr.Name (PySem.Str.ofString "_") ⟨0, 0, 0, 0⟩) (fun _ => rfl) (slice_op F N hl pl pu hi' hm hb h hs fun _ => rfl)
theorem len_opB {ds : List Int} {Q : Value → Shared → Prop} (hl : s.heap.IsList l vs.toArray) (hi : IntsAre vs ds) (hb : ds.length < 2 ^ 20)
    (h : Q (.int ds.length (s.toks + 1)) { s with toks := s.toks + 1 + 1 }) : wpAny (model prog w) A (call (.builtin "len") [.ref l]) Q E s :=
  len_list_made hl hi.carried (by rw [List.length_map]; omega) (by rw [List.length_map]; exact h)
end
noncomputable def given (ns : List Int) : List Int := ns.take 6 ++ [123, 125, 122, 3].drop (ns.take 6).length
theorem given_len (ns : List Int) : (given ns).length = 4 ∨ (given ns).length = 5 ∨ (given ns).length = 6 := by
  unfold given
  rw [List.length_append, List.length_drop, List.length_take]
  simp only [List.length_cons, List.length_nil]
  omega
theorem ints_head {ws : List Value} {k : Nat} {ds : List Int} (h : IntsAre ws ds) (hl : ds.length = k + 1) : ∃ a t ws' ds', ws = .int a t :: ws' ∧ IntsAre ws' ds' ∧ ds'.length = k := by
  cases h with
  | nil => cases hl
  | cons a t h => exact ⟨a, t, _, _, rfl, h, by simpa using hl⟩
theorem ints_none {ws : List Value} {ds : List Int} (h : IntsAre ws ds) (hl : ds.length = 0) : ws = [] := by
  cases h with
  | nil => rfl
  | cons a t h => cases hl
theorem given_split {ws : List Value} {ns : List Int} (h : IntsAre ws (given ns)) :
    (∃ a b c d t1 t2 t3 t4, ws = [.int a t1, .int b t2, .int c t3, .int d t4]) ∨ (∃ a b c d e t1 t2 t3 t4 t5, ws = [.int a t1, .int b t2, .int c t3, .int d t4, .int e t5]) ∨
    (∃ a b c d e f t1 t2 t3 t4 t5 t6, ws = [.int a t1, .int b t2, .int c t3, .int d t4, .int e t5, .int f t6]) := by
  have hl : ws.length = (given ns).length := h.length
  have hg := given_len ns
  rw [← hl] at hg
  clear hl
  generalize given ns = gs at h
  cases h with
  | nil => simp at hg
  | cons a t h =>
  cases h with
  | nil => simp at hg
  | cons b t2 h =>
  cases h with
  | nil => simp at hg
  | cons c t3 h =>
  cases h with
  | nil => simp at hg
  | cons d t4 h =>
  cases h with
  | nil => exact .inl ⟨a, b, c, d, t, t2, t3, t4, rfl⟩
  | cons e t5 h =>
  cases h with
  | nil => exact .inr (.inl ⟨a, b, c, d, e, t, t2, t3, t4, t5, rfl⟩)
  | cons f t6 h =>
  cases h with
  | nil => exact .inr (.inr ⟨a, b, c, d, e, f, t, t2, t3, t4, t5, t6, rfl⟩)
  | cons g t7 h => simp at hg
section
variable {prog : Program} {w : World} {A : Around} {E : Value → Shared → Prop} {s : Shared} {Q : Value → Shared → Prop}
theorem mod_op {a n : Int} {t u : Tok} (hn : 0 < n) (h : ∀ t', Q (.int (a % n) t') { s with toks := s.toks + 1 }) :
    wpAny (model prog w) A (binaryOp .Mod (.int a t) (.int n u)) Q E s := by
  refine mod_int' (by omega) ?_
  rw [Int.fmod_eq_emod_of_nonneg _ (Int.le_of_lt hn)]
  exact h _
theorem mulD_op {a b : Int} {t u : Tok} (hm : IntMulOk a b) (h : ∀ t', Q (.int (a * b) t') { s with toks := s.toks + 1 }) :
    wpAny (model prog w) A (binaryOp .Mult (.int a t) (.int b u)) Q E s := mul_int (h _) hm
end
theorem bits_of_n1 {as : List Int} {A : Nat} (h : n1 as ≤ A) (hA : A < 2 ^ 64) : ∀ x ∈ as, Builtin.Int.intBits x ≤ 2 ^ 20 := by
  intro x hx
  have h1 := n1_mem hx
  have h2 : Builtin.Int.intBits x ≤ 64 := intBits_le_iff.mpr (by omega)
  omega
end Mine
end

section
open PySem PySem.W PySem.Spec PySem.Calls PyProof.Rows
set_option maxRecDepth 100000
set_option maxHeartbeats 0
namespace Mine
theorem tim_use {prog : Program} {w : World} {p : Program} {loose : List Str} {mean : ExcName → Option Value} {mg mb : Str → Option Value}
 {dp un : Nat} {gd : Option (List Code)} {cn : Str} {cs : Scope} {ad : Addr} {ccd : Value} {cl : List (Str × Addr)} {outer : List Env} {A₀ : Around} {base h₀ : Heap} {L : Addr} {m : Str → Option Value} {s : Shared} {Q E : Value → Shared → Prop}
 (B : Below A₀ base outer h₀) (F : Fr h₀ L s.heap m) (KX : (hd.heap_39 w.params).In h₀) (T : Top p loose mean mg mb h₀) (hk : cs.kind = .function)
 {news : List (Addr × Obj)} (N : News h₀ L s.heap news)
 {l1 l2 : Nat} {vs1 vs2 : List Value} {e1 e2 : Nat} {as bs : List Int} (m1 : (l1, PySem.W.listOf vs1.toArray e1) ∈ news) (m2 : (l2, PySem.W.listOf vs2.toArray e2) ∈ news) (i1 : IntsAre vs1 as) (i2 : IntsAre vs2 bs)
 {la lb MA MB : Nat} (hla : as.length = la) (hlb : bs.length = lb) (hA : n1 as ≤ MA) (hB : n1 bs ≤ MB) (h1 : 1 ≤ la) (h2 : 1 ≤ lb) (h3 : la ≤ 16) (h4 : lb ≤ 16) (h5 : MA < 2 ^ 64) (h6 : MB < 2 ^ 64)
 (hdp : dp + 10 < recursionLimit) (hu : un + 80 < cLine)
 (hQ : ∀ (l : Nat) (vs : List Value) (e : Nat) (h' : Heap) (tk' : Nat) (ps : List Int), Fr h₀ L h' m → News h₀ L h' ((l, PySem.W.listOf vs.toArray e) :: news) → (∀ q ∈ news, q.1 < l) → ps = times as bs → ps.length = la + lb - 1 → n1 ps ≤ MA * MB → IntsAre vs ps → Q (.ref l) { s with heap := h', toks := tk' })  :
 wpAny (model prog w) (ktrTop dp un gd cn cs L ad ccd cl outer) (call (.ref 63) [.ref l1, .ref l2]) Q E s := by
  refine tim_spec dp un gd cn cs ad ccd cl outer A₀ base h₀ L m s Q E B F KX T hk news N l1 l2 vs1 vs2 e1 e2 as bs m1 m2 i1 i2 (by omega) (by omega) (by omega) (by omega) (bits_of_n1 hA h5) (bits_of_n1 hB h6) hdp hu ?_
  intro l vs e h' tk' F' N' g i
  exact hQ l vs e h' tk' (times as bs) F' N' g rfl (by rw [times_len, hla, hlb]) (n1_times hA hB) i
end Mine
end

section
open PySem PySem.W PySem.Spec PySem.Calls PyProof.Rows
set_option maxRecDepth 100000
set_option maxHeartbeats 0
namespace Mine
noncomputable def CutQ (P : Shared → Prop) (Q : Flow → Shared → Prop) (f : Flow) (s : Shared) : Prop := match f with
  | .next => P s
  | f => Q f s
theorem cut_at {M : Model} {A : Around} {E : Value → Shared → Prop} {env : Env} {Q : Flow → Shared → Prop} (P : Shared → Prop) (bs : List Stmt) (h2 : ∀ s', P s' → wpAny M A (execs bs env) Q E s') : ∀ (as : List Stmt) (s : Shared), wpAny M A (execs as env) (CutQ P Q) E s → wpAny M A (execs (as ++ bs) env) Q E s := by
  intro as s h Γ p hΓ
  have h1 := h Γ p hΓ
  clear h
  induction as generalizing p s with
  | nil => exact h2 s h1 Γ p hΓ
  | cons a as ih =>
    rw [List.cons_append]
    rw [execs_cons, Sem.wp_bind'] at h1 ⊢
    refine Sem.wp_mono M Γ _ (fun f p' s' h' => ?_) (fun _ _ _ h' => h') _ _ h1
    cases f with
    | next => exact ih s' p' h'
    | _ => exact h'
theorem cut9 {M : Model} {A : Around} {E : Value → Shared → Prop} {env : Env} {Q : Flow → Shared → Prop} {s : Shared} {l : List Stmt} (n : Nat) (P : Shared → Prop) (h1 : wpAny M A (execs (l.take n) env) (CutQ P Q) E s) (h2 : ∀ s', P s' → wpAny M A (execs (l.drop n) env) Q E s') :
    wpAny M A (execs l env) Q E s := by
  have := cut_at P (l.drop n) h2 (l.take n) s h1
  rw [List.take_append_drop] at this
  exact this
end Mine
end

section
/- linear algebra over the whole numbers, for Routh's theorem: plain -/
namespace Mine
noncomputable def dot : List Int → List Int → Int
  | a :: as, b :: bs => a * b + dot as bs
  | _, _ => 0
theorem dot_zero : ∀ (as : List Int) (n : Nat), dot as (List.replicate n 0) = 0
  | [], n => by cases n <;> rfl
  | a :: as, 0 => rfl
  | a :: as, n + 1 => by rw [List.replicate_succ, dot, dot_zero as n]; simp
theorem dot_scale (c : Int) : ∀ (as bs : List Int), dot as (bs.map fun x => c * x) = c * dot as bs
  | [], bs => by cases bs <;> simp [dot]
  | a :: as, [] => by simp [dot]
  | a :: as, b :: bs => by rw [List.map_cons, dot, dot, dot_scale c as bs]; grind
theorem dot_comb (c d : Int) : ∀ (as bs ws : List Int), as.length = bs.length → dot (comb c d as bs) ws = c * dot as ws - d * dot bs ws
  | [], [], ws, _ => by cases ws <;> simp [comb, dot]
  | a :: as, b :: bs, [], h => by simp [comb, dot]
  | a :: as, b :: bs, w :: ws, h => by rw [comb, dot, dot, dot, dot_comb c d as bs ws (by simpa using h)]; grind
/-- fewer equations than unknowns: a solution that is not nought -/
theorem solve : ∀ (n : Nat) (rows : List (List Int)), rows.length < n → (∀ r ∈ rows, r.length = n) → ∃ w : List Int, w.length = n ∧ (∃ x ∈ w, x ≠ 0) ∧ ∀ r ∈ rows, dot r w = 0
  | 0, _, h, _ => absurd h (Nat.not_lt_zero _)
  | n + 1, rows, h, hl => by
    by_cases h0 : ∀ r ∈ rows, r.headD 0 = 0
    · refine ⟨1 :: List.replicate n 0, by simp, ⟨1, .head _, by decide⟩, fun r hr => ?_⟩
      have h1 := h0 r hr
      cases r with
      | nil => rfl
      | cons a as =>
        have : a = 0 := h1
        rw [this, dot, dot_zero]; rfl
    · obtain ⟨r, hr, hr0⟩ : ∃ r ∈ rows, r.headD 0 ≠ 0 := by
        refine Classical.byContradiction fun hc => h0 fun r hr => Classical.byContradiction fun hn => hc ⟨r, hr, hn⟩
      obtain ⟨pre, post, rfl⟩ := List.append_of_mem hr
      have hrl := hl r hr
      cases r with
      | nil => cases hrl
      | cons c rs =>
        have hc : c ≠ 0 := hr0
        have hrs : rs.length = n := by simpa using hrl
        obtain ⟨w, hw1, ⟨x, hx, hx0⟩, hw3⟩ := solve n ((pre ++ post).map fun r2 => comb c (r2.headD 0) r2.tail rs) (by
          simp only [List.length_map, List.length_append, List.length_cons] at h ⊢; omega) (fun r2 hr2 => by
          obtain ⟨r3, hr3, rfl⟩ := List.mem_map.mp hr2
          have h3 : r3.length = n + 1 := hl r3 (by
            rcases List.mem_append.mp hr3 with q | q
            · exact List.mem_append.mpr (.inl q)
            · exact List.mem_append.mpr (.inr (.tail _ q)))
          rw [comb_len _ _ _ _ (by rw [List.length_tail, h3, hrs]; rfl), List.length_tail, h3]; rfl)
        refine ⟨-dot rs w :: w.map (fun x => c * x), by simp [hw1], ⟨c * x, .tail _ (List.mem_map.mpr ⟨x, hx, rfl⟩), Int.mul_ne_zero hc hx0⟩, fun r2 hr2 => ?_⟩
        rcases List.mem_append.mp hr2 with q | q
        · have h4 := hw3 _ (List.mem_map.mpr ⟨r2, List.mem_append.mpr (.inl q), rfl⟩)
          have h3 : r2.length = n + 1 := hl r2 hr2
          cases r2 with
          | nil => cases h3
          | cons b bs =>
            have hbs : bs.length = n := by simpa using h3
            rw [dot_comb _ _ _ _ _ (by rw [List.tail_cons, hbs, hrs])] at h4
            rw [dot, dot_scale]
            have e1 : (b :: bs).headD 0 = b := rfl
            have e2 : (b :: bs).tail = bs := rfl
            rw [e1, e2] at h4
            grind
        · rcases List.mem_cons.mp q with rfl | q
          · rw [dot, dot_scale]; grind
          · have h4 := hw3 _ (List.mem_map.mpr ⟨r2, List.mem_append.mpr (.inr q), rfl⟩)
            have h3 : r2.length = n + 1 := hl r2 hr2
            cases r2 with
            | nil => cases h3
            | cons b bs =>
              have hbs : bs.length = n := by simpa using h3
              rw [dot_comb _ _ _ _ _ (by rw [List.tail_cons, hbs, hrs])] at h4
              rw [dot, dot_scale]
              have e1 : (b :: bs).headD 0 = b := rfl
              have e2 : (b :: bs).tail = bs := rfl
              rw [e1, e2] at h4
              grind
end Mine
end

section
/- a functional on functions, by weights at 1 .. n; two forms that are equal have like signs: plain -/
namespace Mine
noncomputable def lin : List Int → Int → (Int → Int) → Int
  | [], _, _ => 0
  | a :: w, s, F => a * F s + lin w (s + 1) F
theorem lin_add : ∀ (w : List Int) (s : Int) (F G : Int → Int), lin w s (fun x => F x + G x) = lin w s F + lin w s G
  | [], _, _, _ => rfl
  | a :: w, s, F, G => by rw [lin, lin, lin, lin_add w]; grind
theorem lin_smul (c : Int) : ∀ (w : List Int) (s : Int) (F : Int → Int), lin w s (fun x => c * F x) = c * lin w s F
  | [], _, _ => by simp [lin]
  | a :: w, s, F => by rw [lin, lin, lin_smul c w]; grind
theorem lin_congr : ∀ (w : List Int) (s : Int) (F G : Int → Int), (∀ x, s ≤ x → x < s + w.length → F x = G x) → lin w s F = lin w s G
  | [], _, _, _, _ => rfl
  | a :: w, s, F, G, h => by
    rw [lin, lin, h s (by omega) (by simp only [List.length_cons]; omega), lin_congr w (s + 1) F G fun x h1 h2 => h x (by omega) (by simp only [List.length_cons]; omega)]
theorem lin_zero (w : List Int) (s : Int) : lin w s (fun _ => 0) = 0 := by
  have := lin_smul 0 w s (fun _ => 0)
  simpa using this
noncomputable def vals (q : Int → Int) : Nat → Int → List Int
  | 0, _ => []
  | n + 1, s => q s :: vals q n (s + 1)
theorem vals_len (q : Int → Int) : ∀ (n : Nat) (s : Int), (vals q n s).length = n
  | 0, _ => rfl
  | n + 1, s => by rw [vals, List.length_cons, vals_len q n]
theorem lin_dot (q : Int → Int) : ∀ (w : List Int) (s : Int), lin w s q = dot (vals q w.length s) w
  | [], _ => rfl
  | a :: w, s => by rw [lin, List.length_cons, vals, dot, lin_dot q w]; grind
abbrev Form := List (Int × (Int → Int))
noncomputable def qf (L : (Int → Int) → Int) : Form → Int
  | [] => 0
  | c :: r => c.1 * (L c.2 * L c.2) + qf L r
noncomputable def ker : Form → Int → Int → Int
  | [], _, _ => 0
  | c :: r, x, y => c.1 * (c.2 x * c.2 y) + ker r x y
noncomputable def negs (f : Form) : Form := f.filter fun c => decide (c.1 < 0)
noncomputable def poss (f : Form) : Form := f.filter fun c => decide (0 < c.1)
theorem qf_le {L : (Int → Int) → Int} : ∀ {f : Form}, (∀ c ∈ poss f, L c.2 = 0) → qf L f ≤ 0
  | [], _ => Int.le_refl _
  | c :: r, h => by
    have ih := qf_le (L := L) (f := r) fun d hd => h d (by
      simp only [poss, List.filter_cons] at hd ⊢
      split
      · exact .tail _ hd
      · exact hd)
    rw [qf]
    by_cases hc : 0 < c.1
    · have := h c (by simp [poss, hc])
      rw [this]; simpa using ih
    · have h1 : 0 ≤ L c.2 * L c.2 := by
        rcases Int.le_total 0 (L c.2) with q | q
        · exact Int.mul_nonneg q q
        · exact Int.mul_nonneg_of_nonpos_of_nonpos q q
      have h2 : c.1 * (L c.2 * L c.2) ≤ 0 := Int.mul_nonpos_of_nonpos_of_nonneg (by omega) h1
      omega
theorem sq_pos {z : Int} (h : z ≠ 0) : 0 < z * z := by
  rcases Int.lt_or_gt_of_ne h with q | q
  · exact Int.mul_pos_of_neg_of_neg q q
  · exact Int.mul_pos q q
theorem sq_nonneg (z : Int) : 0 ≤ z * z := by
  by_cases h : z = 0
  · rw [h]; decide
  · exact Int.le_of_lt (sq_pos h)
theorem qf_pos {L : (Int → Int) → Int} : ∀ {f : Form}, (∀ c ∈ negs f, L c.2 = 0) → 0 ≤ qf L f ∧ (qf L f ≤ 0 → ∀ c ∈ f, c.1 ≠ 0 → L c.2 = 0)
  | [], _ => ⟨Int.le_refl _, fun _ _ h => nomatch h⟩
  | c :: r, h => by
    obtain ⟨ih1, ih2⟩ := qf_pos (L := L) (f := r) fun d hd => h d (by
      simp only [negs, List.filter_cons] at hd ⊢
      split
      · exact .tail _ hd
      · exact hd)
    rw [qf]
    by_cases hc : c.1 < 0
    · have h1 := h c (by simp [negs, hc])
      rw [h1]
      refine ⟨by simpa using ih1, fun h2 d hd hd0 => ?_⟩
      rcases List.mem_cons.mp hd with rfl | hd
      · exact h1
      · exact ih2 (by simpa using h2) d hd hd0
    · have h1 : 0 ≤ c.1 * (L c.2 * L c.2) := Int.mul_nonneg (by omega) (sq_nonneg _)
      refine ⟨by omega, fun h2 d hd hd0 => ?_⟩
      rcases List.mem_cons.mp hd with rfl | hd
      · refine Classical.byContradiction fun hn => ?_
        have := Int.mul_pos (by omega : 0 < d.1) (sq_pos hn)
        omega
      · exact ih2 (by omega) d hd hd0
/-- if a.qf cs = b.qf es for all weights and cs tells weights apart, the negative of cs and the positive of es are enough -/
theorem inertia {n : Nat} {cs es : Form} {a b : Int} (ha : 0 < a) (hb : 0 < b) (hid : ∀ w : List Int, w.length = n → a * qf (lin w 1) cs = b * qf (lin w 1) es)
    (hn : ∀ c ∈ cs, c.1 ≠ 0) (htri : ∀ w : List Int, w.length = n → (∀ c ∈ cs, lin w 1 c.2 = 0) → ∀ x ∈ w, x = 0) : n ≤ (negs cs).length + (poss es).length := by
  refine Classical.byContradiction fun hlt => ?_
  obtain ⟨w, hw, ⟨x, hx, hx0⟩, hz⟩ := solve n ((negs cs ++ poss es).map fun c => vals c.2 n 1) (by simp only [List.length_map, List.length_append]; omega) (fun r hr => by
    obtain ⟨c, _, rfl⟩ := List.mem_map.mp hr
    exact vals_len _ _ _)
  have hL : ∀ c ∈ negs cs ++ poss es, lin w 1 c.2 = 0 := fun c hc => by
    rw [lin_dot, hw]; exact hz _ (List.mem_map.mpr ⟨c, hc, rfl⟩)
  have h1 := qf_pos (L := lin w 1) (f := cs) fun c hc => hL c (List.mem_append.mpr (.inl hc))
  have h2 := qf_le (L := lin w 1) (f := es) fun c hc => hL c (List.mem_append.mpr (.inr hc))
  have h3 := hid w hw
  have h4 : b * qf (lin w 1) es ≤ 0 := Int.mul_nonpos_of_nonneg_of_nonpos (Int.le_of_lt hb) h2
  have h5 : qf (lin w 1) cs ≤ 0 := by
    refine Classical.byContradiction fun h => ?_
    have := Int.mul_pos ha (by omega : 0 < qf (lin w 1) cs)
    omega
  exact hx0 (htri w hw (fun c hc => h1.2 h5 c hc (hn c hc)) x hx)
end Mine
end

section
/- the form by which a pair of rows is told: plain -/
namespace Mine
noncomputable def gq (x y : Int) : Int := 27720 / (x + y)
theorem gq_mul {x y : Int} (z : Int) (hx : 1 ≤ x) (hx6 : x ≤ 6) (hy : 1 ≤ y) (hy6 : y ≤ 6) : gq x y * ((x + y) * z) = 27720 * z := by
  unfold gq
  have h : x + y = 2 ∨ x + y = 3 ∨ x + y = 4 ∨ x + y = 5 ∨ x + y = 6 ∨ x + y = 7 ∨ x + y = 8 ∨ x + y = 9 ∨ x + y = 10 ∨ x + y = 11 ∨ x + y = 12 := by omega
  have d : (x + y) ∣ 27720 := by
    rcases h with h | h | h | h | h | h | h | h | h | h | h <;> rw [h] <;> decide
  rw [← Int.mul_assoc, Int.ediv_mul_cancel d]
noncomputable def sw (w : List Int) (F : Int → Int → Int) : Int := lin w 1 fun x => lin w 1 fun y => gq x y * F x y
theorem sw_add (w : List Int) (F G : Int → Int → Int) : sw w (fun x y => F x y + G x y) = sw w F + sw w G := by
  unfold sw
  rw [← lin_add]
  congr 1; funext x
  rw [← lin_add]
  congr 1; funext y
  rw [Int.mul_add]
theorem sw_smul (c : Int) (w : List Int) (F : Int → Int → Int) : sw w (fun x y => c * F x y) = c * sw w F := by
  unfold sw
  rw [← lin_smul]
  congr 1; funext x
  rw [← lin_smul]
  congr 1; funext y
  grind
theorem sw_congr {w : List Int} {F G : Int → Int → Int} (h : ∀ x y, F x y = G x y) : sw w F = sw w G := by
  have : F = G := by funext x y; exact h x y
  rw [this]
theorem sw_zero (w : List Int) : sw w (fun _ _ => 0) = 0 := by
  have := sw_smul 0 w (fun _ _ => 0)
  simpa using this
theorem sw_prod {w : List Int} (hw : w.length ≤ 6) (u v : Int → Int) : sw w (fun x y => (x + y) * (u x * v y)) = 27720 * (lin w 1 u * lin w 1 v) := by
  unfold sw
  have e : lin w 1 (fun x => lin w 1 fun y => gq x y * ((x + y) * (u x * v y))) = lin w 1 (fun x => (27720 * lin w 1 v) * u x) := by
    refine lin_congr _ _ _ _ fun x hx1 hx2 => ?_
    have e2 : lin w 1 (fun y => gq x y * ((x + y) * (u x * v y))) = lin w 1 (fun y => (27720 * u x) * v y) := by
      refine lin_congr _ _ _ _ fun y hy1 hy2 => ?_
      rw [gq_mul _ hx1 (by omega) hy1 (by omega)]; grind
    rw [e2, lin_smul]; grind
  rw [e, lin_smul]; grind
theorem sw_ker {w : List Int} (hw : w.length ≤ 6) : ∀ f : Form, sw w (fun x y => (x + y) * ker f x y) = 27720 * qf (lin w 1) f
  | [] => by
    have : sw w (fun x y => (x + y) * ker [] x y) = sw w (fun _ _ => 0) := sw_congr fun x y => by simp [ker]
    rw [this, sw_zero]; simp [qf]
  | c :: r => by
    have : sw w (fun x y => (x + y) * ker (c :: r) x y) = sw w (fun x y => c.1 * ((x + y) * (c.2 x * c.2 y)) + (x + y) * ker r x y) := sw_congr fun x y => by rw [ker]; grind
    rw [this, sw_add, sw_smul, sw_prod hw, sw_ker hw r, qf]; grind
/-- the number that a row stands for, as a function: x to the e, times the row at x times x -/
noncomputable def ra (e : Nat) (as : List Int) (x : Int) : Int := x ^ e * ev (x * x) as
noncomputable def nn (F G : Int → Int) (x y : Int) : Int := F x * G y + G x * F y
/-- how long two rows that follow each other are -/
noncomputable def Fit (e : Nat) (as bs : List Int) : Prop := (e = 0 ∧ as.length = bs.length + 1) ∨ (e = 1 ∧ as.length = bs.length)
theorem Fit.next {e : Nat} {as bs : List Int} (h : Fit e as bs) (hb : bs ≠ []) : Fit (1 - e) bs (nxt as bs) := by
  have h1 := len_pos hb
  have hle : bs.length ≤ as.length := by rcases h with ⟨_, h⟩ | ⟨_, h⟩ <;> omega
  unfold Fit
  rw [nxt_len hle]
  rcases h with ⟨rfl, h⟩ | ⟨rfl, h⟩
  · right; exact ⟨rfl, by omega⟩
  · left; exact ⟨rfl, by omega⟩
theorem Fit.le {e : Nat} {as bs : List Int} (h : Fit e as bs) : bs.length ≤ as.length := by rcases h with ⟨_, h⟩ | ⟨_, h⟩ <;> omega
theorem ra_next {e : Nat} {as bs : List Int} (h : Fit e as bs) (hb : bs ≠ []) (x : Int) :
    ((top bs).natAbs : Int) * ra e as x = sideOf (top bs) * top as * (x * ra (1 - e) bs x) + ra e (nxt as bs) x := by
  unfold ra
  rw [nxt_ev (x * x) h.le hb]
  have hp : x ^ e * ev (x * x) (pad as bs) = x * (x ^ (1 - e) * ev (x * x) bs) := by
    unfold pad
    rcases h with ⟨rfl, h⟩ | ⟨rfl, h⟩
    · have e1 : as.length - bs.length = 1 := by omega
      rw [e1]
      show x ^ 0 * (0 + x * x * ev (x * x) bs) = _
      simp only [Int.pow_zero, Nat.sub_zero, Int.pow_succ]
      grind
    · have e1 : as.length - bs.length = 0 := by omega
      rw [e1]
      show x ^ 1 * ev (x * x) bs = _
      simp only [Nat.sub_self, Int.pow_zero, Int.pow_succ]
      grind
  grind
theorem nn_next {e : Nat} {as bs : List Int} (h : Fit e as bs) (hb : bs ≠ []) (x y : Int) :
    ((top bs).natAbs : Int) * nn (ra e as) (ra (1 - e) bs) x y = (x + y) * (sideOf (top bs) * top as * (ra (1 - e) bs x * ra (1 - e) bs y)) + nn (ra (1 - e) bs) (ra e (nxt as bs)) x y := by
  have h1 := ra_next h hb x
  have h2 := ra_next h hb y
  unfold nn
  generalize ra e as x = a at *
  generalize ra e as y = b at *
  generalize ra (1 - e) bs x = c at *
  generalize ra (1 - e) bs y = d at *
  generalize ra e (nxt as bs) x = f at *
  generalize ra e (nxt as bs) y = g at *
  have : ((top bs).natAbs : Int) * (a * d + c * b) = (((top bs).natAbs : Int) * a) * d + c * (((top bs).natAbs : Int) * b) := by grind
  rw [this, h1, h2]; grind
end Mine
end

section
/- the table's form: plain -/
namespace Mine
structure Lin (Λ : (Int → Int) → Int) : Prop where
  add : ∀ F G, Λ (fun x => F x + G x) = Λ F + Λ G
  smul : ∀ c F, Λ (fun x => c * F x) = c * Λ F
theorem lin_is (w : List Int) (s : Int) : Lin (lin w s) := ⟨lin_add w s, fun c F => lin_smul c w s F⟩
theorem Lin.zero {Λ : (Int → Int) → Int} (h : Lin Λ) : Λ (fun _ => 0) = 0 := by
  have := h.smul 0 (fun _ => 0)
  simpa using this
theorem ra_cons (e : Nat) (d : Int) (ds : List Int) (x : Int) : ra e (d :: ds) x = d * x ^ e + ra (e + 2) ds x := by
  unfold ra
  rw [ev, Int.pow_succ, Int.pow_succ]; grind
theorem top_cons (d e : Int) (ds : List Int) : top (d :: e :: ds) = top (e :: ds) := rfl
theorem Lin.ra_top {Λ : (Int → Int) → Int} (h : Lin Λ) : ∀ (ds : List Int) (e : Nat), ds ≠ [] → (∀ i, i + 1 < ds.length → Λ (fun x => x ^ (e + 2 * i)) = 0) → Λ (ra e ds) = top ds * Λ (fun x => x ^ (e + 2 * (ds.length - 1)))
  | [], _, h0, _ => absurd rfl h0
  | [d], e, _, _ => by
    have : ra e [d] = fun x => d * x ^ e := by funext x; rw [ra_cons]; simp [ra, ev]
    rw [this, h.smul]; rfl
  | d :: f :: ds, e, _, hz => by
    have : ra e (d :: f :: ds) = fun x => d * x ^ e + ra (e + 2) (f :: ds) x := by funext x; rw [ra_cons]
    rw [this, h.add, h.smul, top_cons, Lin.ra_top h (f :: ds) (e + 2) (by simp) (fun i hi => by
      have := hz (i + 1) (by simp only [List.length_cons] at hi ⊢; omega)
      rw [show e + 2 + 2 * i = e + 2 * (i + 1) by omega]; exact this)]
    have h0 := hz 0 (by simp only [List.length_cons]; omega)
    rw [show e + 2 * 0 = e by omega] at h0
    rw [h0]
    rw [show e + 2 + 2 * ((f :: ds).length - 1) = e + 2 * ((d :: f :: ds).length - 1) by simp only [List.length_cons]; omega]
    omega
noncomputable def chg : List Int → Nat
  | a :: b :: r => (if decide (0 < a) ≠ decide (0 < b) then 1 else 0) + chg (b :: r)
  | _ => 0
structure Chain (f e : Nat) (as bs : List Int) (K c : Int) (cs : Form) (e' : Nat) (as' bs' : List Int) : Prop where
  K0 : 0 < K
  c0 : 0 < c
  fit : Fit e' as' bs'
  stop : top bs' = 0
  ne : as' ≠ []
  id : ∀ x y, K * nn (ra e as) (ra (1 - e) bs) x y = (x + y) * ker cs x y + c * nn (ra e' as') (ra (1 - e') bs') x y
  len : cs.length + as'.length + bs'.length = as.length + bs.length
  tl : cs.length = (tail f as bs).length
  nz : top as ≠ 0 → (∀ c ∈ cs, c.1 ≠ 0) ∧ (negs cs).length = chg (top as :: tail f as bs)
  tri : ∀ Λ, Lin Λ → (∀ c ∈ cs, Λ c.2 = 0) → (∀ k, k + 1 < as'.length + bs'.length → Λ (fun x => x ^ k) = 0) → ∀ k, k + 1 < as.length + bs.length → Λ (fun x => x ^ k) = 0
theorem chain : ∀ (f e : Nat) (as bs : List Int), Fit e as bs → as ≠ [] → as.length + bs.length ≤ f → ∃ K c cs e' as' bs', Chain f e as bs K c cs e' as' bs'
  | 0, e, as, bs, _, ha, hf => by have := len_pos ha; omega
  | f + 1, e, as, bs, hfit, ha, hf => by
    by_cases t0 : top bs = 0
    · refine ⟨1, 1, [], e, as, bs, ⟨by decide, by decide, hfit, t0, ha, fun x y => by simp [ker], by simp, by rw [tail, if_pos t0]; rfl, fun _ => ⟨(fun _ h => (nomatch h)), by rw [tail, if_pos t0]; rfl⟩, fun _ _ _ h => h⟩⟩
    · have hb := top_ne t0
      have hbl := len_pos hb
      have hle := hfit.le
      have he : 1 - (1 - e) = e := by rcases hfit with ⟨h, _⟩ | ⟨h, _⟩ <;> omega
      obtain ⟨K, c, cs, e', as', bs', C⟩ := chain f (1 - e) bs (nxt as bs) (hfit.next hb) hb (by rw [nxt_len hle]; omega)
      have htb : 0 < ((top bs).natAbs : Int) := by omega
      refine ⟨K * ((top bs).natAbs : Int), c, (K * (sideOf (top bs) * top as), ra (1 - e) bs) :: cs, e', as', bs', ⟨Int.mul_pos C.K0 htb, C.c0, C.fit, C.stop, C.ne, fun x y => ?_, ?_, ?_, fun h0 => ⟨fun d hd => ?_, ?_⟩, fun Λ hΛ hc hk k hk2 => ?_⟩⟩
      · have h1 := nn_next hfit hb x y
        have h2 := C.id x y
        rw [he] at h2
        rw [ker, Int.mul_assoc, h1, Int.mul_add, h2]; grind
      · have := C.len; rw [nxt_len hle] at this; simp only [List.length_cons]; omega
      · rw [tail, if_neg t0, List.length_cons, List.length_cons, C.tl]
      · rcases List.mem_cons.mp hd with rfl | hd
        · refine Int.mul_ne_zero (by have := C.K0; omega) (Int.mul_ne_zero ?_ h0)
          unfold sideOf; split <;> decide
        · exact (C.nz t0).1 d hd
      · rw [tail, if_neg t0, chg, ← (C.nz t0).2, negs, List.filter_cons]
        have hs : (K * (sideOf (top bs) * top as) < 0) ↔ (decide (0 < top as) ≠ decide (0 < top bs)) := by
          have hK := C.K0
          have e1 : K * (sideOf (top bs) * top as) < 0 ↔ sideOf (top bs) * top as < 0 := by
            constructor
            · intro h
              refine Classical.byContradiction fun hn => ?_
              have := Int.mul_nonneg (Int.le_of_lt hK) (by omega : 0 ≤ sideOf (top bs) * top as)
              omega
            · intro h
              exact Int.mul_neg_of_pos_of_neg hK h
          rw [e1, side_mul]
          by_cases p1 : 0 < top as <;> by_cases p2 : 0 < top bs <;> simp [p1, p2] <;> omega
        by_cases hc : K * (sideOf (top bs) * top as) < 0
        · rw [if_pos (by simpa using hc), if_pos (hs.mp hc), List.length_cons]; unfold negs; omega
        · rw [if_neg (by simpa using hc), if_neg (fun h => hc (hs.mpr h))]; unfold negs; omega
      · have hlow := C.tri Λ hΛ (fun d hd => hc d (.tail _ hd)) hk
        rw [nxt_len hle] at hlow
        by_cases hkk : k + 1 < bs.length + (as.length - 1)
        · exact hlow k hkk
        · have h1 := hΛ.ra_top bs (1 - e) hb (fun i hi => hlow _ (by rcases hfit with ⟨rfl, q⟩ | ⟨rfl, q⟩ <;> omega))
          have h2 := hc _ (.head _)
          dsimp only at h2
          rw [h1] at h2
          have h3 : 1 - e + 2 * (bs.length - 1) = k := by rcases hfit with ⟨rfl, q⟩ | ⟨rfl, q⟩ <;> omega
          rw [h3] at h2
          rcases Int.mul_eq_zero.mp h2 with q | q
          · exact absurd q t0
          · exact q
end Mine
end

section
/- the roots' form: plain -/
namespace Mine
structure RootF (p : Int → Int) (n : Nat) (es : Form) (le ri : Nat) : Prop where
  id : ∀ x y, p x * p y - p (-x) * p (-y) = (x + y) * ker es x y
  len : es.length = n
  pos : (poss es).length = le
  neg : (negs es).length = ri
noncomputable def by' (h : Int → Int) (es : Form) : Form := es.map fun c => (c.1, fun x => h x * c.2 x)
theorem ker_by (h : Int → Int) : ∀ (es : Form) (x y : Int), ker (by' h es) x y = h x * h y * ker es x y
  | [], _, _ => by simp [by', ker]
  | c :: r, x, y => by
    have ih := ker_by h r x y
    show c.1 * (h x * c.2 x * (h y * c.2 y)) + ker (by' h r) x y = _
    rw [ih, ker]; grind
theorem poss_by (h : Int → Int) (es : Form) : (poss (by' h es)).length = (poss es).length := by
  unfold poss by'
  rw [List.filter_map, List.length_map]; rfl
theorem negs_by (h : Int → Int) (es : Form) : (negs (by' h es)).length = (negs es).length := by
  unfold negs by'
  rw [List.filter_map, List.length_map]; rfl
theorem poss_cons (c : Int × (Int → Int)) (r : Form) : (poss (c :: r)).length = (if 0 < c.1 then 1 else 0) + (poss r).length := by
  unfold poss; rw [List.filter_cons]
  by_cases h : 0 < c.1
  · rw [if_pos (by simpa using h), if_pos h, List.length_cons]; omega
  · rw [if_neg (by simpa using h), if_neg h]; omega
theorem negs_cons (c : Int × (Int → Int)) (r : Form) : (negs (c :: r)).length = (if c.1 < 0 then 1 else 0) + (negs r).length := by
  unfold negs; rw [List.filter_cons]
  by_cases h : c.1 < 0
  · rw [if_pos (by simpa using h), if_pos h, List.length_cons]; omega
  · rw [if_neg (by simpa using h), if_neg h]; omega
noncomputable def pn (d : Int) : Nat := if 0 < d then 1 else 0
noncomputable def nn1 (d : Int) : Nat := if d < 0 then 1 else 0
theorem RootF.one : RootF (fun _ => 1) 0 [] 0 0 := ⟨fun x y => by simp [ker], rfl, rfl, rfl⟩
noncomputable def esS (p : Int → Int) (d : Int) (es : Form) : Form := (2 * d, p) :: by' (fun x => d - x) es
theorem RootF.single {p : Int → Int} {n : Nat} {es : Form} {le ri : Nat} (R : RootF p n es le ri) (d : Int) : RootF (fun x => p x * (x + d)) (n + 1) (esS p d es) (pn d + le) (nn1 d + ri) where
  id := fun x y => by
    have h := R.id x y
    unfold esS
    rw [ker, ker_by]
    dsimp only
    grind
  len := by unfold esS; rw [List.length_cons, by', List.length_map, R.len]
  pos := by
    unfold esS
    rw [poss_cons, poss_by, R.pos]
    unfold pn
    dsimp only
    by_cases h : 0 < d
    · rw [if_pos h, if_pos (by omega)]
    · rw [if_neg h, if_neg (by omega)]
  neg := by
    unfold esS
    rw [negs_cons, negs_by, R.neg]
    unfold nn1
    dsimp only
    by_cases h : d < 0
    · rw [if_pos h, if_pos (by omega)]
    · rw [if_neg h, if_neg (by omega)]
noncomputable def qd (d v x : Int) : Int := (x + d) * (x + d) + v * v
noncomputable def esD (p : Int → Int) (d v : Int) (es : Form) : Form := (4 * (d * (d * d + v * v)), p) :: (4 * d, fun x => x * p x) :: by' (fun x => qd d v (-x)) es
theorem sgn_m {d v : Int} (hv : 1 ≤ v) : (0 < 4 * (d * (d * d + v * v)) ↔ 0 < d) ∧ (4 * (d * (d * d + v * v)) < 0 ↔ d < 0) := by
  have h1 := sq_nonneg d
  have h2 := sq_pos (z := v) (by omega)
  have hm : 0 < d * d + v * v := by omega
  generalize d * d + v * v = m at *
  have h3 : 0 < d ∨ d < 0 ∨ d = 0 := by omega
  rcases h3 with h | q | q
  · have := Int.mul_pos h hm; omega
  · have := Int.mul_neg_of_neg_of_pos q hm; omega
  · rw [q]; simp
theorem RootF.double {p : Int → Int} {n : Nat} {es : Form} {le ri : Nat} (R : RootF p n es le ri) (d : Int) {v : Int} (hv : 1 ≤ v) : RootF (fun x => p x * qd d v x) (n + 2) (esD p d v es) (pn d + pn d + le) (nn1 d + nn1 d + ri) where
  id := fun x y => by
    have h := R.id x y
    unfold esD
    rw [ker, ker, ker_by]
    dsimp only
    unfold qd
    grind
  len := by unfold esD; rw [List.length_cons, List.length_cons, by', List.length_map, R.len]
  pos := by
    have hs := (sgn_m (d := d) hv).1
    unfold esD
    rw [poss_cons, poss_cons, poss_by, R.pos]
    unfold pn
    dsimp only
    by_cases h : 0 < d
    · rw [if_pos h, if_pos (hs.mpr h), if_pos (by omega)]; omega
    · rw [if_neg h, if_neg (fun q => h (hs.mp q)), if_neg (by omega)]; omega
  neg := by
    have hs := (sgn_m (d := d) hv).2
    unfold esD
    rw [negs_cons, negs_cons, negs_by, R.neg]
    unfold nn1
    dsimp only
    by_cases h : d < 0
    · rw [if_pos h, if_pos (hs.mpr h), if_pos (by omega)]; omega
    · rw [if_neg h, if_neg (fun q => h (hs.mp q)), if_neg (by omega)]; omega
end Mine
end

section
/- the roots' form tells functionals apart: plain -/
namespace Mine
noncomputable def Ind (n : Nat) (es : Form) : Prop := ∀ Λ, Lin Λ → (∀ c ∈ es, Λ c.2 = 0) → ∀ k, k < n → Λ (fun x => x ^ k) = 0
theorem Lin.mul {Λ : (Int → Int) → Int} (h : Lin Λ) (g : Int → Int) : Lin (fun F => Λ fun x => g x * F x) where
  add := fun F G => by
    rw [← h.add]; congr 1; funext x; rw [Int.mul_add]
  smul := fun c F => by
    rw [← h.smul]; congr 1; funext x; grind
theorem Lin.ev_at {Λ : (Int → Int) → Int} (h : Lin Λ) (d u : Int) : ∀ (cs : List Int) (j : Nat), (∀ k, k < cs.length → Λ (fun x => x ^ (j + k)) = d ^ k * u) → Λ (fun x => x ^ j * ev x cs) = ev d cs * u
  | [], j, _ => by
    have : (fun x : Int => x ^ j * ev x []) = fun _ => 0 := by funext x; simp [ev]
    rw [this, h.zero]; simp [ev]
  | a :: cs, j, hk => by
    have : (fun x : Int => x ^ j * ev x (a :: cs)) = fun x => a * x ^ j + x ^ (j + 1) * ev x cs := by
      funext x; rw [ev, Int.pow_succ]; grind
    rw [this, h.add, h.smul]
    have h0 := hk 0 (by simp)
    rw [Nat.add_zero, Int.pow_zero] at h0
    have h1 := Lin.ev_at h d (d * u) cs (j + 1) fun k hk2 => by
      have := hk (k + 1) (by simpa using hk2)
      rw [show j + 1 + k = j + (k + 1) by omega, this, Int.pow_succ]; grind
    rw [h0, h1, ev]; grind
theorem Ind.single {n : Nat} {es : Form} (I : Ind n es) {p : Int → Int} {cs : List Int} {d : Int} (hp : ∀ x, p x = ev x cs) (hl : cs.length = n + 1) (hd : p d ≠ 0) : Ind (n + 1) (esS p d es) := by
  intro Λ h hc k hk
  have h1 := I _ (h.mul fun x => d - x) fun c hcm => hc (c.1, fun x => (d - x) * c.2 x) (.tail _ (List.mem_map.mpr ⟨c, hcm, rfl⟩))
  have step : ∀ k, k < n → Λ (fun x => x ^ (k + 1)) = d * Λ (fun x => x ^ k) := fun k hk => by
    have h2 := h1 k hk
    dsimp only at h2
    have : (fun x : Int => (d - x) * x ^ k) = fun x => d * x ^ k + (-1) * x ^ (k + 1) := by funext x; rw [Int.pow_succ]; grind
    rw [this, h.add, h.smul, h.smul] at h2
    omega
  have pow : ∀ k, k ≤ n → Λ (fun x => x ^ k) = d ^ k * Λ (fun x => x ^ 0) := fun k => by
    induction k with
    | zero => intro _; simp
    | succ k ih => intro hk; rw [step k (by omega), ih (by omega), Int.pow_succ]; grind
  have h3 := hc _ (.head _)
  dsimp only at h3
  have : p = fun x => x ^ 0 * ev x cs := by funext x; rw [hp]; simp
  rw [this, h.ev_at d (Λ fun x => x ^ 0) cs 0 (fun k hk => by rw [Nat.zero_add]; exact pow k (by omega)), ← hp] at h3
  have h0 : Λ (fun x => x ^ 0) = 0 := by
    rcases Int.mul_eq_zero.mp h3 with q | q
    · exact absurd q hd
    · exact q
  rw [pow k (by omega), h0, Int.mul_zero]
theorem Lin.poly3 {Λ : (Int → Int) → Int} (h : Lin Λ) (a b c e : Int) : Λ (fun x => a * x ^ 3 + b * x ^ 2 + c * x ^ 1 + e * x ^ 0) = a * Λ (fun x => x ^ 3) + b * Λ (fun x => x ^ 2) + c * Λ (fun x => x ^ 1) + e * Λ (fun x => x ^ 0) := by
  rw [h.add, h.add, h.add, h.smul, h.smul, h.smul, h.smul]
theorem Ind.one (d v : Int) : Ind 2 (esD (fun _ => 1) d v []) := by
  intro Λ h hc k hk
  have h1 := hc _ (.head _)
  have h2 := hc _ (.tail _ (.head _))
  dsimp only at h1 h2
  have hk2 : k = 0 ∨ k = 1 := by omega
  rcases hk2 with rfl | rfl
  · have : (fun x : Int => x ^ 0) = fun _ => 1 := by funext x; simp
    rw [this]; exact h1
  · have : (fun x : Int => x ^ 1) = fun x => x * 1 := by funext x; grind
    rw [this]; exact h2
theorem two_eqs {d e m l a b c z : Int} (h1 : c + 2 * d * b + m * a = 0) (h2 : z + 2 * d * c + m * b = 0) (h3 : c - 2 * e * b + l * a = 0) (h4 : z - 2 * e * c + l * b = 0)
    (hde : d + e ≠ 0) {v : Int} (hm : m = d * d + v * v) (hv : v ≠ 0) : a = 0 ∧ b = 0 ∧ c = 0 ∧ z = 0 := by
  have k1 : 2 * (d + e) * b = (l - m) * a := by grind
  have k2 : 2 * (d + e) * c = (l - m) * b := by grind
  generalize hs : 2 * (d + e) = s at k1 k2
  generalize ht : l - m = t at k1 k2
  have hs0 : s ≠ 0 := by omega
  have k3 : a * ((t + d * s) * (t + d * s) + (v * s) * (v * s)) = 0 := by
    have q1 : s * s * c = t * t * a := by grind
    have q2 : s * s * (c + 2 * d * b + m * a) = 0 := by rw [h1]; simp
    have q3 : s * s * (c + 2 * d * b + m * a) = t * t * a + 2 * d * s * (t * a) + m * (s * s) * a := by grind
    rw [hm] at q3
    grind
  have hpos : 0 < (t + d * s) * (t + d * s) + (v * s) * (v * s) := by
    have := sq_nonneg (t + d * s)
    have := sq_pos (Int.mul_ne_zero hv hs0)
    omega
  have ha : a = 0 := by
    rcases Int.mul_eq_zero.mp k3 with q | q
    · exact q
    · omega
  subst ha
  have hb : b = 0 := by
    rw [Int.mul_zero] at k1
    rcases Int.mul_eq_zero.mp k1 with q | q
    · exact absurd q hs0
    · exact q
  subst hb
  simp at h1 h2
  subst h1
  simp at h2
  exact ⟨rfl, rfl, rfl, h2⟩
theorem Ind.two {d1 v1 d2 v2 : Int} (hv : v1 ≠ 0) (hd : d1 + d2 ≠ 0) : Ind 4 (esD (fun x => 1 * qd d1 v1 x) d2 v2 (esD (fun _ => 1) d1 v1 [])) := by
  intro Λ h hc k hk
  have h1 := hc _ (.head _)
  have h2 := hc _ (.tail _ (.head _))
  have h3 := hc _ (.tail _ (.tail _ (.head _)))
  have h4 := hc _ (.tail _ (.tail _ (.tail _ (.head _))))
  dsimp only at h1 h2 h3 h4
  have e1 : (fun x : Int => 1 * qd d1 v1 x) = fun x => 0 * x ^ 3 + 1 * x ^ 2 + (2 * d1) * x ^ 1 + (d1 * d1 + v1 * v1) * x ^ 0 := by funext x; unfold qd; grind
  have e2 : (fun x : Int => x * (1 * qd d1 v1 x)) = fun x => 1 * x ^ 3 + (2 * d1) * x ^ 2 + (d1 * d1 + v1 * v1) * x ^ 1 + 0 * x ^ 0 := by funext x; unfold qd; grind
  have e3 : (fun x : Int => qd d2 v2 (-x) * 1) = fun x => 0 * x ^ 3 + 1 * x ^ 2 + (-(2 * d2)) * x ^ 1 + (d2 * d2 + v2 * v2) * x ^ 0 := by funext x; unfold qd; grind
  have e4 : (fun x : Int => qd d2 v2 (-x) * (x * 1)) = fun x => 1 * x ^ 3 + (-(2 * d2)) * x ^ 2 + (d2 * d2 + v2 * v2) * x ^ 1 + 0 * x ^ 0 := by funext x; unfold qd; grind
  rw [e1, h.poly3] at h1
  rw [e2, h.poly3] at h2
  rw [e3, h.poly3] at h3
  rw [e4, h.poly3] at h4
  obtain ⟨ha, hb, hc', hz⟩ := two_eqs (d := d1) (e := d2) (m := d1 * d1 + v1 * v1) (l := d2 * d2 + v2 * v2) (a := Λ fun x => x ^ 0) (b := Λ fun x => x ^ 1) (c := Λ fun x => x ^ 2) (z := Λ fun x => x ^ 3) (v := v1) (by grind) (by grind) (by grind) (by grind) hd rfl hv
  have hk2 : k = 0 ∨ k = 1 ∨ k = 2 ∨ k = 3 := by omega
  rcases hk2 with rfl | rfl | rfl | rfl <;> assumption
end Mine
end

section
/- what is left of a table that stops: plain -/
namespace Mine
theorem mono_zero {w : List Int} (hw : w.length ≤ 6) {m : Nat} (hz : ∀ k, k + 2 ≤ m → lin w 1 (fun x => x ^ k) = 0) : ∀ (g i j : Nat), i = j + 2 * g + 1 → i + j + 3 ≤ 2 * m → sw w (fun x y => x ^ i * y ^ j + x ^ j * y ^ i) = 0
  | 0, i, j, hi, hm => by
    subst hi
    have : sw w (fun x y => x ^ (j + 2 * 0 + 1) * y ^ j + x ^ j * y ^ (j + 2 * 0 + 1)) = sw w (fun x y => (x + y) * (x ^ j * y ^ j)) := sw_congr fun x y => by
      rw [show j + 2 * 0 + 1 = j + 1 by omega, Int.pow_succ, Int.pow_succ]; grind
    rw [this, sw_prod hw, hz j (by omega)]; simp
  | g + 1, i, j, hi, hm => by
    obtain ⟨k, rfl⟩ : ∃ k, i = k + 1 := ⟨i - 1, by omega⟩
    have e1 : sw w (fun x y => x ^ (k + 1) * y ^ j + x ^ j * y ^ (k + 1)) =
        sw w (fun x y => ((x + y) * (x ^ k * y ^ j) + (x + y) * (x ^ j * y ^ k)) + (-1) * (x ^ k * y ^ (j + 1) + x ^ (j + 1) * y ^ k)) := sw_congr fun x y => by
      rw [Int.pow_succ, Int.pow_succ, Int.pow_succ, Int.pow_succ]; grind
    rw [e1, sw_add, sw_add, sw_smul, sw_prod hw, sw_prod hw, mono_zero hw hz g k (j + 1) (by omega) (by omega), hz j (by omega)]; simp
theorem mono_any {w : List Int} (hw : w.length ≤ 6) {m : Nat} (hz : ∀ k, k + 2 ≤ m → lin w 1 (fun x => x ^ k) = 0) {i j : Nat} (hodd : (i + j) % 2 = 1) (hm : i + j + 3 ≤ 2 * m) : sw w (fun x y => x ^ i * y ^ j + x ^ j * y ^ i) = 0 := by
  rcases Nat.lt_or_ge j i with h | h
  · exact mono_zero hw hz ((i - j - 1) / 2) i j (by omega) hm
  · have : sw w (fun x y => x ^ i * y ^ j + x ^ j * y ^ i) = sw w (fun x y => x ^ j * y ^ i + x ^ i * y ^ j) := sw_congr fun x y => by omega
    rw [this]
    exact mono_zero hw hz ((j - i - 1) / 2) j i (by omega) (by omega)
theorem nn_one {w : List Int} (hw : w.length ≤ 6) {m : Nat} (hz : ∀ k, k + 2 ≤ m → lin w 1 (fun x => x ^ k) = 0) (p : Nat) : ∀ (bs : List Int) (q : Nat), (p + q) % 2 = 1 → (∀ j, j < bs.length → p + (q + 2 * j) + 3 ≤ 2 * m) → sw w (nn (fun x => x ^ p) (ra q bs)) = 0
  | [], q, _, _ => by
    have : sw w (nn (fun x => x ^ p) (ra q [])) = sw w (fun _ _ => 0) := sw_congr fun x y => by simp [nn, ra, ev]
    rw [this, sw_zero]
  | b :: bs, q, ho, hb => by
    have : sw w (nn (fun x => x ^ p) (ra q (b :: bs))) = sw w (fun x y => b * (x ^ p * y ^ q + x ^ q * y ^ p) + nn (fun x => x ^ p) (ra (q + 2) bs) x y) := sw_congr fun x y => by
      unfold nn; rw [ra_cons, ra_cons]; grind
    rw [this, sw_add, sw_smul, mono_any hw hz ho (by have := hb 0 (by simp); omega)]
    have ih := nn_one hw hz p bs (q + 2) (by omega) fun j hj => by have := hb (j + 1) (by simpa using hj); omega
    rw [show sw w (fun x y => nn (fun x => x ^ p) (ra (q + 2) bs) x y) = sw w (nn (fun x => x ^ p) (ra (q + 2) bs)) from rfl, ih]; simp
theorem nn_zero {w : List Int} (hw : w.length ≤ 6) {m : Nat} (hz : ∀ k, k + 2 ≤ m → lin w 1 (fun x => x ^ k) = 0) (bs : List Int) (q : Nat) : ∀ (as : List Int) (p : Nat), (p + q) % 2 = 1 → (∀ i j, i < as.length → j < bs.length → p + 2 * i + (q + 2 * j) + 3 ≤ 2 * m) → sw w (nn (ra p as) (ra q bs)) = 0
  | [], p, _, _ => by
    have : sw w (nn (ra p []) (ra q bs)) = sw w (fun _ _ => 0) := sw_congr fun x y => by simp [nn, ra, ev]
    rw [this, sw_zero]
  | a :: as, p, ho, hb => by
    have : sw w (nn (ra p (a :: as)) (ra q bs)) = sw w (fun x y => a * nn (fun x => x ^ p) (ra q bs) x y + nn (ra (p + 2) as) (ra q bs) x y) := sw_congr fun x y => by
      unfold nn; rw [ra_cons, ra_cons]; grind
    have ih := nn_zero hw hz bs q as (p + 2) (by omega) fun i j hi hj => by have := hb (i + 1) j (by simpa using hi) hj; omega
    have h1 := nn_one hw hz p bs q ho fun j hj => by have := hb 0 j (by simp) hj; omega
    rw [this, sw_add, sw_smul]
    rw [show sw w (fun x y => nn (ra (p + 2) as) (ra q bs) x y) = sw w (nn (ra (p + 2) as) (ra q bs)) from rfl, ih]
    rw [show sw w (fun x y => nn (fun x => x ^ p) (ra q bs) x y) = sw w (nn (fun x => x ^ p) (ra q bs)) from rfl, h1]; simp
theorem ra_drop {bs : List Int} (h : top bs = 0) (e : Nat) (x : Int) : ra e bs x = ra e bs.dropLast x := by
  by_cases hb : bs = []
  · rw [hb]; rfl
  · unfold ra
    conv => lhs; rw [last_split bs hb, h, ev_append]
    simp [ev]
theorem end_zero {w : List Int} (hw : w.length ≤ 6) {e : Nat} {as bs : List Int} (hf : Fit e as bs) (h0 : top bs = 0) (hz : ∀ k, k + 2 ≤ as.length + bs.length - 1 → lin w 1 (fun x => x ^ k) = 0) : sw w (nn (ra e as) (ra (1 - e) bs)) = 0 := by
  have : sw w (nn (ra e as) (ra (1 - e) bs)) = sw w (nn (ra e as) (ra (1 - e) bs.dropLast)) := sw_congr fun x y => by unfold nn; rw [ra_drop h0, ra_drop h0]
  rw [this]
  refine nn_zero hw hz _ _ as e (by rcases hf with ⟨h, _⟩ | ⟨h, _⟩ <;> omega) fun i j hi hj => ?_
  rw [List.length_dropLast] at hj
  rcases hf with ⟨h, q⟩ | ⟨h, q⟩ <;> omega
end Mine
end

section
/- Routh's theorem for rows of whole numbers, degree 4 to 6: plain -/
namespace Mine
/-- the weights times their places' distance from c -/
noncomputable def mulw (c : Int) : List Int → Int → List Int
  | [], _ => []
  | a :: w, s => (s - c) * a :: mulw c w (s + 1)
theorem mulw_len (c : Int) : ∀ (w : List Int) (s : Int), (mulw c w s).length = w.length
  | [], _ => rfl
  | _ :: w, s => by rw [mulw, List.length_cons, List.length_cons, mulw_len c w]
theorem mulw_lin (c : Int) (F : Int → Int) : ∀ (w : List Int) (s : Int), lin (mulw c w s) s F = lin w s (fun x => (x - c) * F x)
  | [], _ => rfl
  | a :: w, s => by
    rw [mulw, lin, lin, mulw_lin c F w, Int.mul_comm (s - c) a, Int.mul_assoc]
theorem mulw_zero (c : Int) : ∀ (w : List Int) (s : Int), c < s → (∀ y ∈ mulw c w s, y = 0) → ∀ x ∈ w, x = 0
  | [], _, _, _ => fun _ h => nomatch h
  | a :: w, s, hs, h => by
    have h1 := h _ (List.Mem.head _)
    have h2 := mulw_zero c w (s + 1) (Int.lt_add_one_of_le (Int.le_of_lt hs)) fun y hy => h y (.tail _ hy)
    intro x hx
    cases hx with
    | head =>
      rcases Int.mul_eq_zero.mp h1 with e | e
      · exact absurd (Int.sub_eq_zero.mp e) (Int.ne_of_gt hs)
      · exact e
    | tail _ hx => exact h2 x hx
theorem vander' : ∀ (n : Nat) (w : List Int) (s : Int), w.length = n → (∀ k, k < n → lin w s (fun x => x ^ k) = 0) → ∀ x ∈ w, x = 0
  | 0, [], _, _, _ => fun _ h => nomatch h
  | n + 1, a :: w, s, hl, hz => by
    have hl' : w.length = n := Nat.succ.inj hl
    have hw : ∀ x ∈ w, x = 0 := by
      refine mulw_zero s w (s + 1) (Int.lt_succ s) (vander' n _ (s + 1) ((mulw_len s w _).trans hl') fun k hk => ?_)
      rw [mulw_lin]
      have h1 := hz (k + 1) (Nat.succ_lt_succ hk)
      have h0 := hz k (Nat.lt_succ_of_lt hk)
      rw [lin] at h0 h1
      have e : lin w (s + 1) (fun x => (x - s) * x ^ k) = lin w (s + 1) (fun x => x ^ (k + 1)) + (-s) * lin w (s + 1) (fun x => x ^ k) := by
        rw [← lin_smul, ← lin_add]
        congr 1
        funext x
        rw [Int.pow_succ, Int.sub_mul, Int.neg_mul, Int.mul_comm (x ^ k) x]; rfl
      rw [e]
      rw [Int.pow_succ] at h1
      have e1 : lin w (s + 1) (fun x => x ^ (k + 1)) = -(a * (s ^ k * s)) := by clear e h0; omega
      have e0 : lin w (s + 1) (fun x => x ^ k) = -(a * s ^ k) := by clear e e1 h1; omega
      rw [e1, e0, ← Int.mul_assoc, Int.neg_mul_neg, Int.mul_comm s]
      exact Int.add_left_neg _
    intro x hx
    cases hx with
    | head =>
      have h0 := hz 0 (Nat.succ_pos n)
      rw [lin] at h0
      have e : lin w (s + 1) (fun x => x ^ 0) = 0 := by
        have : ∀ (w : List Int) (s : Int), (∀ x ∈ w, x = 0) → lin w s (fun x => x ^ 0) = 0 := by
          intro w
          induction w with
          | nil => intro _ _; rfl
          | cons b w ih =>
            intro s h
            rw [lin, h b (.head _), ih (s + 1) fun x hx => h x (.tail _ hx)]; simp
        exact this w (s + 1) hw
      rw [e] at h0
      simpa using h0
    | tail _ hx => exact hw x hx
theorem vander {n : Nat} (_h4 : 4 ≤ n) (_h6 : n ≤ 6) {w : List Int} (hw : w.length = n) (hz : ∀ k, k < n → lin w 1 (fun x => x ^ k) = 0) : ∀ x ∈ w, x = 0 := vander' n w 1 hw hz
theorem split_len : ∀ f : Form, (negs f).length + (poss f).length ≤ f.length
  | [] => Nat.le_refl _
  | c :: r => by
    have ih := split_len r
    rw [negs_cons, poss_cons, List.length_cons]
    split <;> split <;> omega
theorem split_eq : ∀ f : Form, (∀ c ∈ f, c.1 ≠ 0) → (negs f).length + (poss f).length = f.length
  | [], _ => rfl
  | c :: r, h => by
    have ih := split_eq r fun d hd => h d (.tail _ hd)
    have h0 := h c (.head _)
    rw [negs_cons, poss_cons, List.length_cons]
    split <;> split <;> omega
theorem qf_neg (L : (Int → Int) → Int) : ∀ f : Form, qf L (f.map fun c => (-c.1, c.2)) = -qf L f
  | [] => rfl
  | c :: r => by
    rw [List.map_cons, qf, qf, qf_neg L r]; grind
theorem negs_neg (f : Form) : (negs (f.map fun c => (-c.1, c.2))).length = (poss f).length := by
  unfold negs poss
  rw [List.filter_map, List.length_map]
  congr 2; funext c; simp only [Function.comp]; congr 1; apply propext; omega
theorem poss_neg (f : Form) : (poss (f.map fun c => (-c.1, c.2))).length = (negs f).length := by
  unfold negs poss
  rw [List.filter_map, List.length_map]
  congr 2; funext c; simp only [Function.comp]; congr 1; apply propext; omega
theorem routh {n e : Nat} (h4 : 4 ≤ n) (h6 : n ≤ 6) {as bs : List Int} (hfit : Fit e as bs) (hlen : as.length + bs.length = n + 1) (has : as ≠ []) (ht : top as ≠ 0)
    {p : Int → Int} {es : Form} {le ri : Nat} (R : RootF p n es le ri) (hI : le = n ∨ ri = n → Ind n es) (hp : ∀ x y, p x * p y - p (-x) * p (-y) = 2 * nn (ra e as) (ra (1 - e) bs) x y) :
    ((tail (as.length + bs.length + 1) as bs).length + 1 ≤ n → ri < n ∧ le < n) ∧
    (n < (tail (as.length + bs.length + 1) as bs).length + 1 → (tail (as.length + bs.length + 1) as bs).length + 1 = n + 1 ∧ chg (top as :: tail (as.length + bs.length + 1) as bs) = ri ∧ ri + le = n) := by
  obtain ⟨K, c, cs, e', as', bs', C⟩ := chain (as.length + bs.length + 1) e as bs hfit has (by omega)
  have hal := len_pos C.ne
  have hcl := C.len
  have hsp := split_len es
  rw [R.len, R.pos, R.neg] at hsp
  have hform : ∀ w : List Int, w.length = n → K * (27720 * qf (lin w 1) es) = 2 * (27720 * qf (lin w 1) cs) + 2 * (c * sw w (nn (ra e' as') (ra (1 - e') bs'))) := by
    intro w hw
    have hw6 : w.length ≤ 6 := by omega
    rw [← sw_ker hw6, ← sw_ker hw6, ← sw_smul, ← sw_smul, ← sw_smul, ← sw_smul, ← sw_add]
    refine sw_congr fun x y => ?_
    have q1 := R.id x y
    have q2 := hp x y
    have q3 := C.id x y
    rw [← q1, q2]
    have : K * (2 * nn (ra e as) (ra (1 - e) bs) x y) = 2 * (K * nn (ra e as) (ra (1 - e) bs) x y) := by grind
    rw [this, q3]; grind
  rw [← C.tl]
  refine ⟨fun hdeg => ?_, fun hnd => ?_⟩
  · refine Classical.byContradiction fun hbad => ?_
    have hall : le = n ∨ ri = n := by omega
    have I := hI hall
    obtain ⟨w, hw, ⟨x, hx, hx0⟩, hz⟩ := solve n (cs.map (fun c => vals c.2 n 1) ++ (List.range (as'.length + bs'.length - 2)).map (fun k => vals (fun x => x ^ k) n 1)) (by
        simp only [List.length_append, List.length_map, List.length_range]; omega) (fun r hr => by
      rcases List.mem_append.mp hr with q | q
      · obtain ⟨d, _, rfl⟩ := List.mem_map.mp q; exact vals_len _ _ _
      · obtain ⟨d, _, rfl⟩ := List.mem_map.mp q; exact vals_len _ _ _)
    have z1 : ∀ c ∈ cs, lin w 1 c.2 = 0 := fun d hd => by
      rw [lin_dot, hw]; exact hz _ (List.mem_append.mpr (.inl (List.mem_map.mpr ⟨d, hd, rfl⟩)))
    have z2 : ∀ k, k + 2 ≤ as'.length + bs'.length - 1 → lin w 1 (fun x => x ^ k) = 0 := fun k hk => by
      rw [lin_dot, hw]; exact hz _ (List.mem_append.mpr (.inr (List.mem_map.mpr ⟨k, List.mem_range.mpr (by omega), rfl⟩)))
    have z3 := end_zero (w := w) (by omega) C.fit C.stop z2
    have z4 : qf (lin w 1) cs = 0 := by
      have a1 := qf_pos (L := lin w 1) (f := cs) fun d hd => z1 d (List.mem_filter.mp hd).1
      have a2 := qf_le (L := lin w 1) (f := cs) fun d hd => z1 d (List.mem_filter.mp hd).1
      omega
    have z5 := hform w hw
    rw [z3, z4] at z5
    have z6 : qf (lin w 1) es = 0 := by
      have hK := C.K0
      rcases Int.mul_eq_zero.mp (show K * (27720 * qf (lin w 1) es) = 0 by rw [z5]; simp) with q | q
      · omega
      · omega
    have z7 : ∀ d ∈ es, lin w 1 d.2 = 0 := by
      have hlen2 := R.len
      rcases hall with q | q
      · have hneg : negs es = [] := List.length_eq_zero_iff.mp (by rw [R.neg]; omega)
        have hp1 := (qf_pos (L := lin w 1) (f := es) (by rw [hneg]; exact fun _ h => (nomatch h))).2 (by omega)
        intro d hd
        refine hp1 d hd fun h0 => ?_
        have hpe : (poss es).length = es.length := by rw [R.pos, hlen2]; exact q
        have := (List.length_filter_eq_length_iff.mp hpe) d hd
        simp [h0] at this
      · have hpos : poss es = [] := List.length_eq_zero_iff.mp (by rw [R.pos]; omega)
        have hp1 := (qf_pos (L := lin w 1) (f := es.map fun c => (-c.1, c.2)) (by
          have : negs (es.map fun c => (-c.1, c.2)) = [] := List.length_eq_zero_iff.mp (by rw [negs_neg, hpos]; rfl)
          rw [this]; exact fun _ h => (nomatch h))).2 (by rw [qf_neg]; omega)
        intro d hd
        have := hp1 (-d.1, d.2) (List.mem_map.mpr ⟨d, hd, rfl⟩) fun h0 => by
          have hpe : (negs es).length = es.length := by rw [R.neg, hlen2]; exact q
          have := (List.length_filter_eq_length_iff.mp hpe) d hd
          simp at this
          dsimp only at h0
          omega
        exact this
    exact hx0 (vander h4 h6 hw (I _ (lin_is w 1) z7) x hx)
  · have hcs : cs.length = n := by omega
    have hb0 : as'.length = 1 ∧ bs' = [] := by
      have : as'.length + bs'.length = 1 := by omega
      exact ⟨by omega, List.length_eq_zero_iff.mp (by omega)⟩
    have hend : ∀ w : List Int, sw w (nn (ra e' as') (ra (1 - e') bs')) = 0 := fun w => by
      rw [hb0.2]
      have : sw w (nn (ra e' as') (ra (1 - e') [])) = sw w (fun _ _ => 0) := sw_congr fun x y => by simp [nn, ra, ev]
      rw [this, sw_zero]
    obtain ⟨hnz, hch⟩ := C.nz ht
    have hsc := split_eq cs hnz
    have htri : ∀ w : List Int, w.length = n → (∀ c ∈ cs, lin w 1 c.2 = 0) → ∀ x ∈ w, x = 0 := fun w hw hz =>
      vander h4 h6 hw fun k hk => C.tri _ (lin_is w 1) hz (fun k hk => by rw [hb0.1, hb0.2] at hk; simp at hk) k (by omega)
    have hK := C.K0
    have hid : ∀ w : List Int, w.length = n → 2 * qf (lin w 1) cs = K * qf (lin w 1) es := fun w hw => by
      have := hform w hw
      rw [hend] at this
      have e1 : K * (27720 * qf (lin w 1) es) = 27720 * (K * qf (lin w 1) es) := by grind
      omega
    have i1 := inertia (n := n) (a := 2) (b := K) (by decide) hK hid hnz htri
    have i2 := inertia (n := n) (cs := cs.map fun c => (-c.1, c.2)) (es := es.map fun c => (-c.1, c.2)) (a := 2) (b := K) (by decide) hK (fun w hw => by
      rw [qf_neg, qf_neg]; have := hid w hw; grind) (fun d hd => by
      obtain ⟨d', hd', rfl⟩ := List.mem_map.mp hd
      have := hnz d' hd'
      dsimp only; omega) (fun w hw hz => htri w hw fun d hd => hz (-d.1, d.2) (List.mem_map.mpr ⟨d, hd, rfl⟩))
    rw [negs_neg, poss_neg] at i2
    rw [R.pos] at i1
    rw [R.neg] at i2
    rw [← hch]
    omega
end Mine
end

section
/- the law's polynomials: plain -/
namespace Mine
noncomputable def qq (u w : Int) : List Int := [(u % 1000 - 120) * (u % 1000 - 120) + (w % 50 + 1) * (w % 50 + 1), 2 * (u % 1000 - 120), 1]
noncomputable def sg (x : Int) : List Int := [x % 1000 - 120, 1]
inductive Shape : List Int → List Int → Prop
  | four (x y u w : Int) : Shape (times (times (times [1] (sg x)) (sg y)) (qq u w)) [x % 1000 - 120, y % 1000 - 120, u % 1000 - 120, u % 1000 - 120]
  | five (x y z u w : Int) : Shape (times (times (times (times [1] (sg x)) (sg y)) (sg z)) (qq u w)) [x % 1000 - 120, y % 1000 - 120, z % 1000 - 120, u % 1000 - 120, u % 1000 - 120]
  | six (x y u w u' w' : Int) : Shape (times (times (times (times [1] (sg x)) (sg y)) (qq u w)) (qq u' w')) [x % 1000 - 120, y % 1000 - 120, u % 1000 - 120, u % 1000 - 120, u' % 1000 - 120, u' % 1000 - 120]
theorem ev_sg (X x : Int) : ev X (sg x) = X + (x % 1000 - 120) := by simp only [sg, ev]; grind
theorem ev_qq (X u w : Int) : ev X (qq u w) = qd (u % 1000 - 120) (w % 50 + 1) X := by simp only [qq, ev, qd]; grind
theorem Shape.len {cs ds : List Int} (h : Shape cs ds) : 5 ≤ cs.length ∧ cs.length ≤ 7 ∧ ds.length + 1 = cs.length := by
  cases h <;> simp [times_len, sg, qq]
theorem Shape.small {cs ds : List Int} (h : Shape cs ds) : n1 cs < 2 ^ 59 := by
  cases h with
  | four x y u w => exact Nat.lt_of_le_of_lt (n1_times (n1_times (n1_times n1_one (n1_single x)) (n1_single y)) (n1_double u w)) (by decide)
  | five x y z u w => exact Nat.lt_of_le_of_lt (n1_times (n1_times (n1_times (n1_times n1_one (n1_single x)) (n1_single y)) (n1_single z)) (n1_double u w)) (by decide)
  | six x y u w u' w' => exact Nat.lt_of_le_of_lt (n1_times (n1_times (n1_times (n1_times n1_one (n1_single x)) (n1_single y)) (n1_double u w)) (n1_double u' w')) (by decide)
theorem top_times {as bs : List Int} (ha : 1 ≤ as.length) (hb : 1 ≤ bs.length) : top (times as bs) = top as * top bs := by
  unfold top
  rw [times_len, show as.length + bs.length - 1 - 1 = as.length + bs.length - 2 by omega, times_top ha hb]
theorem top_sg (x : Int) : top (sg x) = 1 := rfl
theorem top_qq (u w : Int) : top (qq u w) = 1 := rfl
theorem len_sg (x : Int) : (sg x).length = 2 := rfl
theorem len_qq (u w : Int) : (qq u w).length = 3 := rfl
theorem tt (as bs : List Int) (ha : 1 ≤ as.length) (h : top as = 1) (hb : 1 ≤ bs.length) (h' : top bs = 1) : 1 ≤ (times as bs).length ∧ top (times as bs) = 1 := by
  rw [top_times ha hb, h, h', times_len]; omega
theorem Shape.lead {cs ds : List Int} (h : Shape cs ds) : top cs = 1 := by
  have hs := fun x => (⟨by rw [len_sg]; decide, top_sg x⟩ : 1 ≤ (sg x).length ∧ top (sg x) = 1)
  have hq := fun u w => (⟨by rw [len_qq]; decide, top_qq u w⟩ : 1 ≤ (qq u w).length ∧ top (qq u w) = 1)
  have h1 : 1 ≤ ([1] : List Int).length ∧ top [1] = 1 := ⟨by decide, rfl⟩
  have st := fun {as bs : List Int} (p : 1 ≤ as.length ∧ top as = 1) (q : 1 ≤ bs.length ∧ top bs = 1) => tt as bs p.1 p.2 q.1 q.2
  cases h with
  | four x y u w => exact (st (st (st h1 (hs x)) (hs y)) (hq u w)).2
  | five x y z u w => exact (st (st (st (st h1 (hs x)) (hs y)) (hs z)) (hq u w)).2
  | six x y u w u' w' => exact (st (st (st (st h1 (hs x)) (hs y)) (hq u w)) (hq u' w')).2
end Mine
end

section
/- the law's polynomials have their roots' forms: plain -/
namespace Mine
noncomputable def lefts (ds : List Int) : Nat := (ds.filter fun d => decide (0 < d)).length
noncomputable def rights (ds : List Int) : Nat := (ds.filter fun d => decide (d < 0)).length
theorem lefts_cons (d : Int) (ds : List Int) : lefts (d :: ds) = pn d + lefts ds := by
  unfold lefts pn; rw [List.filter_cons]
  by_cases h : 0 < d
  · rw [if_pos (by simpa using h), if_pos h, List.length_cons]; omega
  · rw [if_neg (by simpa using h), if_neg h]; omega
theorem rights_cons (d : Int) (ds : List Int) : rights (d :: ds) = nn1 d + rights ds := by
  unfold rights nn1; rw [List.filter_cons]
  by_cases h : d < 0
  · rw [if_pos (by simpa using h), if_pos h, List.length_cons]; omega
  · rw [if_neg (by simpa using h), if_neg h]; omega
theorem qd_pos (d v x : Int) (hv : 1 ≤ v) : 0 < qd d v x := by
  unfold qd
  have := sq_nonneg (x + d)
  have := sq_pos (z := v) (by omega)
  omega
theorem RootF.of {p q : Int → Int} {n : Nat} {es : Form} {a b : Nat} (R : RootF p n es a b) (h : ∀ x, q x = p x) {c d : Nat} (hc : c = a) (hd : d = b) : RootF q n es c d := by
  have : q = p := by funext x; exact h x
  subst this; subst hc; subst hd; exact R
theorem all_l {ds : List Int} (h : lefts ds = ds.length) : ∀ d ∈ ds, 0 < d := fun d hd => by
  have := (List.length_filter_eq_length_iff.mp h) d hd
  simpa using this
theorem all_r {ds : List Int} (h : rights ds = ds.length) : ∀ d ∈ ds, d < 0 := fun d hd => by
  have := (List.length_filter_eq_length_iff.mp h) d hd
  simpa using this
end Mine
end

section
/- Shape.roots: plain -/
namespace Mine
theorem ev_one (X : Int) : ev X [1] = 1 := by simp [ev]
theorem times1_len {as bs : List Int} {a b c : Nat} (ha : as.length = a) (hb : bs.length = b) (hc : a + b - 1 = c) : (times as bs).length = c := by rw [times_len, ha, hb, hc]
/-- one more single depth -/
theorem addS {p : Int → Int} {n : Nat} {es : Form} {le ri : Nat} {cs : List Int} (x : Int) (R : RootF p n es le ri) (hp : ∀ X, p X = ev X cs) (hl : cs.length = n + 1) {G : Prop} (I : G → Ind n es) (h0 : G → p (x % 1000 - 120) ≠ 0) :
    ∃ es', RootF (fun X => p X * (X + (x % 1000 - 120))) (n + 1) es' (pn (x % 1000 - 120) + le) (nn1 (x % 1000 - 120) + ri) ∧ (∀ X, p X * (X + (x % 1000 - 120)) = ev X (times cs (sg x))) ∧ (times cs (sg x)).length = n + 2 ∧ (G → Ind (n + 1) es') :=
  ⟨_, R.single _, fun X => by rw [ev_times X (by rw [len_sg]; decide), ev_sg, hp], times1_len hl (len_sg x) (by omega), fun g => (I g).single hp hl (h0 g)⟩
theorem base1 (u w : Int) : ∃ es, RootF (fun X => 1 * qd (u % 1000 - 120) (w % 50 + 1) X) 2 es (pn (u % 1000 - 120) + pn (u % 1000 - 120) + 0) (nn1 (u % 1000 - 120) + nn1 (u % 1000 - 120) + 0) ∧ Ind 2 es ∧ es = esD (fun _ => 1) (u % 1000 - 120) (w % 50 + 1) [] :=
  ⟨_, RootF.one.double _ (by omega), Ind.one _ _, rfl⟩
theorem base2 (u w u' w' : Int) : ∃ es, RootF (fun X => 1 * qd (u % 1000 - 120) (w % 50 + 1) X * qd (u' % 1000 - 120) (w' % 50 + 1) X) 4 es (pn (u' % 1000 - 120) + pn (u' % 1000 - 120) + (pn (u % 1000 - 120) + pn (u % 1000 - 120) + 0)) (nn1 (u' % 1000 - 120) + nn1 (u' % 1000 - 120) + (nn1 (u % 1000 - 120) + nn1 (u % 1000 - 120) + 0)) ∧
    ((u % 1000 - 120) + (u' % 1000 - 120) ≠ 0 → Ind 4 es) :=
  ⟨_, (RootF.one.double _ (by omega)).double _ (by omega), fun h => Ind.two (by omega) h⟩
end Mine
end

section
/- Shape.roots: plain -/
namespace Mine
theorem nz_mul {a b : Int} (ha : a ≠ 0) (hb : b ≠ 0) : a * b ≠ 0 := Int.mul_ne_zero ha hb
theorem qd_ne (d v x : Int) (hv : 1 ≤ v) : qd d v x ≠ 0 := by have := qd_pos d v x hv; omega
noncomputable def Same (ds : List Int) : Prop := (∀ d ∈ ds, 0 < d) ∨ ∀ d ∈ ds, d < 0
theorem Same.sum {ds : List Int} (h : Same ds) {a b : Int} (ha : a ∈ ds) (hb : b ∈ ds) : a + b ≠ 0 := by
  rcases h with h | h
  · have := h a ha; have := h b hb; omega
  · have := h a ha; have := h b hb; omega
theorem same_of {ds : List Int} (h : lefts ds = ds.length ∨ rights ds = ds.length) : Same ds := h.elim (fun q => .inl (all_l q)) fun q => .inr (all_r q)
theorem Shape.roots {cs ds : List Int} (h : Shape cs ds) : ∃ es, RootF (fun X => ev X cs) ds.length es (lefts ds) (rights ds) ∧ (lefts ds = ds.length ∨ rights ds = ds.length → Ind ds.length es) := by
  cases h with
  | four x y u w =>
    obtain ⟨e1, R1, I1, _⟩ := base1 u w
    have hp1 : ∀ X, 1 * qd (u % 1000 - 120) (w % 50 + 1) X = ev X (times [1] (qq u w)) := fun X => by rw [ev_times X (by rw [len_qq]; decide), ev_one, ev_qq]
    obtain ⟨e2, R2, p2, l2, I2⟩ := addS x R1 hp1 (times1_len rfl (len_qq u w) rfl) (G := Same [x % 1000 - 120, y % 1000 - 120, u % 1000 - 120, u % 1000 - 120]) (fun _ => I1) (fun _ => by rw [Int.one_mul]; exact qd_ne _ _ _ (by omega))
    obtain ⟨e3, R3, p3, l3, I3⟩ := addS y R2 p2 l2 I2 (fun g => nz_mul (by rw [Int.one_mul]; exact qd_ne _ _ _ (by omega)) (g.sum (.tail _ (.head _)) (.head _)))
    refine ⟨e3, R3.of (fun X => ?_) ?_ ?_, fun g => I3 (same_of g)⟩
    · rw [ev_times X (by rw [len_qq]; decide), ev_times X (by rw [len_sg]; decide), ev_times X (by rw [len_sg]; decide), ev_one, ev_sg, ev_sg, ev_qq]; ac_rfl
    · simp only [lefts_cons]; show _ + (_ + (_ + (_ + 0))) = _; ac_rfl
    · simp only [rights_cons]; show _ + (_ + (_ + (_ + 0))) = _; ac_rfl
  | five x y z u w =>
    obtain ⟨e1, R1, I1, _⟩ := base1 u w
    have hp1 : ∀ X, 1 * qd (u % 1000 - 120) (w % 50 + 1) X = ev X (times [1] (qq u w)) := fun X => by rw [ev_times X (by rw [len_qq]; decide), ev_one, ev_qq]
    obtain ⟨e2, R2, p2, l2, I2⟩ := addS x R1 hp1 (times1_len rfl (len_qq u w) rfl) (G := Same [x % 1000 - 120, y % 1000 - 120, z % 1000 - 120, u % 1000 - 120, u % 1000 - 120]) (fun _ => I1) (fun _ => by rw [Int.one_mul]; exact qd_ne _ _ _ (by omega))
    obtain ⟨e3, R3, p3, l3, I3⟩ := addS y R2 p2 l2 I2 (fun g => nz_mul (by rw [Int.one_mul]; exact qd_ne _ _ _ (by omega)) (g.sum (.tail _ (.head _)) (.head _)))
    obtain ⟨e4, R4, p4, l4, I4⟩ := addS z R3 p3 l3 I3 (fun g => nz_mul (nz_mul (by rw [Int.one_mul]; exact qd_ne _ _ _ (by omega)) (g.sum (.tail _ (.tail _ (.head _))) (.head _))) (g.sum (.tail _ (.tail _ (.head _))) (.tail _ (.head _))))
    refine ⟨e4, R4.of (fun X => ?_) ?_ ?_, fun g => I4 (same_of g)⟩
    · rw [ev_times X (by rw [len_qq]; decide), ev_times X (by rw [len_sg]; decide), ev_times X (by rw [len_sg]; decide), ev_times X (by rw [len_sg]; decide), ev_one, ev_sg, ev_sg, ev_sg, ev_qq]; ac_rfl
    · simp only [lefts_cons]; show _ + (_ + (_ + (_ + (_ + 0)))) = _; ac_rfl
    · simp only [rights_cons]; show _ + (_ + (_ + (_ + (_ + 0)))) = _; ac_rfl
  | six x y u w u' w' =>
    obtain ⟨e1, R1, I1⟩ := base2 u w u' w'
    have hp1 : ∀ X, 1 * qd (u % 1000 - 120) (w % 50 + 1) X * qd (u' % 1000 - 120) (w' % 50 + 1) X = ev X (times (times [1] (qq u w)) (qq u' w')) := fun X => by rw [ev_times X (by rw [len_qq]; decide), ev_times X (by rw [len_qq]; decide), ev_one, ev_qq, ev_qq]
    obtain ⟨e2, R2, p2, l2, I2⟩ := addS x R1 hp1 (times1_len (times1_len rfl (len_qq u w) rfl) (len_qq u' w') rfl) (G := Same [x % 1000 - 120, y % 1000 - 120, u % 1000 - 120, u % 1000 - 120, u' % 1000 - 120, u' % 1000 - 120]) (fun g => I1 (g.sum (.tail _ (.tail _ (.head _))) (.tail _ (.tail _ (.tail _ (.tail _ (.head _)))))))
      (fun _ => nz_mul (by rw [Int.one_mul]; exact qd_ne _ _ _ (by omega)) (qd_ne _ _ _ (by omega)))
    obtain ⟨e3, R3, p3, l3, I3⟩ := addS y R2 p2 l2 I2 (fun g => nz_mul (nz_mul (by rw [Int.one_mul]; exact qd_ne _ _ _ (by omega)) (qd_ne _ _ _ (by omega))) (g.sum (.tail _ (.head _)) (.head _)))
    refine ⟨e3, R3.of (fun X => ?_) ?_ ?_, fun g => I3 (same_of g)⟩
    · rw [ev_times X (by rw [len_qq]; decide), ev_times X (by rw [len_qq]; decide), ev_times X (by rw [len_sg]; decide), ev_times X (by rw [len_sg]; decide), ev_one, ev_sg, ev_sg, ev_qq, ev_qq]; ac_rfl
    · simp only [lefts_cons]; show _ + (_ + (_ + (_ + (_ + (_ + 0))))) = _; ac_rfl
    · simp only [rights_cons]; show _ + (_ + (_ + (_ + (_ + (_ + 0))))) = _; ac_rfl
end Mine
end

section
/- the law's answer: plain -/
namespace Mine
noncomputable def rowA : List Int → List Int
  | [a, _, c, _, e] => [a, c, e]
  | [_, b, _, d, _, f] => [b, d, f]
  | [a, _, c, _, e, _, g] => [a, c, e, g]
  | _ => []
noncomputable def rowB : List Int → List Int
  | [_, b, _, d, _] => [b, d]
  | [a, _, c, _, e, _] => [a, c, e]
  | [_, b, _, d, _, f, _] => [b, d, f]
  | _ => []
theorem list5 {cs : List Int} (h : cs.length = 5) : ∃ a b c d e, cs = [a, b, c, d, e] := by
  match cs, h with
  | [a, b, c, d, e], _ => exact ⟨a, b, c, d, e, rfl⟩
theorem list6 {cs : List Int} (h : cs.length = 6) : ∃ a b c d e f, cs = [a, b, c, d, e, f] := by
  match cs, h with
  | [a, b, c, d, e, f], _ => exact ⟨a, b, c, d, e, f, rfl⟩
theorem list7 {cs : List Int} (h : cs.length = 7) : ∃ a b c d e f g, cs = [a, b, c, d, e, f, g] := by
  match cs, h with
  | [a, b, c, d, e, f, g], _ => exact ⟨a, b, c, d, e, f, g, rfl⟩
theorem cases567 {cs : List Int} (h5 : 5 ≤ cs.length) (h7 : cs.length ≤ 7) : (∃ a b c d e, cs = [a, b, c, d, e]) ∨ (∃ a b c d e f, cs = [a, b, c, d, e, f]) ∨ (∃ a b c d e f g, cs = [a, b, c, d, e, f, g]) := by
  rcases (by omega : cs.length = 5 ∨ cs.length = 6 ∨ cs.length = 7) with h | h | h
  · exact .inl (list5 h)
  · exact .inr (.inl (list6 h))
  · exact .inr (.inr (list7 h))
structure Rows (n : Nat) (cs as bs : List Int) : Prop where
  fit : Fit ((cs.length - 1) % 2) as bs
  sum : as.length + bs.length = n + 1
  a3 : 3 ≤ as.length
  lead : top as = top cs
  subA : ∀ x ∈ as, x ∈ cs
  subB : ∀ x ∈ bs, x ∈ cs
  id : ∀ x y, ev x cs * ev y cs - ev (-x) cs * ev (-y) cs = 2 * nn (ra ((cs.length - 1) % 2) as) (ra (1 - (cs.length - 1) % 2) bs) x y
theorem split_nn (P Q : Int → Int) (p : Int → Int) (h1 : ∀ x, p x = P x + Q x) (h2 : ∀ x, p (-x) = P x - Q x) (x y : Int) : p x * p y - p (-x) * p (-y) = 2 * nn P Q x y := by
  rw [h1, h1, h2, h2, nn]; grind
theorem split_nn' (P Q : Int → Int) (p : Int → Int) (h1 : ∀ x, p x = P x + Q x) (h2 : ∀ x, p (-x) = Q x - P x) (x y : Int) : p x * p y - p (-x) * p (-y) = 2 * nn P Q x y := by
  rw [h1, h1, h2, h2, nn]; grind
theorem rows5 (a b c d e : Int) : Rows 4 [a, b, c, d, e] [a, c, e] [b, d] where
  fit := .inl ⟨by simp, by simp⟩
  sum := rfl
  a3 := Nat.le_refl _
  lead := rfl
  subA := by simp
  subB := by simp
  id := split_nn _ _ (fun x => ev x [a, b, c, d, e]) (fun x => by simp only [ra, ev, List.length_cons, List.length_nil, Nat.reduceAdd, Nat.reduceSub, Nat.reduceMod]; grind) (fun x => by simp only [ra, ev, List.length_cons, List.length_nil, Nat.reduceAdd, Nat.reduceSub, Nat.reduceMod]; grind)
theorem rows6 (a b c d e f : Int) : Rows 5 [a, b, c, d, e, f] [b, d, f] [a, c, e] where
  fit := .inr ⟨by simp, by simp⟩
  sum := rfl
  a3 := Nat.le_refl _
  lead := rfl
  subA := by simp
  subB := by simp
  id := split_nn' _ _ (fun x => ev x [a, b, c, d, e, f]) (fun x => by simp only [ra, ev, List.length_cons, List.length_nil, Nat.reduceAdd, Nat.reduceSub, Nat.reduceMod]; grind) (fun x => by simp only [ra, ev, List.length_cons, List.length_nil, Nat.reduceAdd, Nat.reduceSub, Nat.reduceMod]; grind)
theorem rows7 (a b c d e f g : Int) : Rows 6 [a, b, c, d, e, f, g] [a, c, e, g] [b, d, f] where
  fit := .inl ⟨by simp, by simp⟩
  sum := rfl
  a3 := by simp
  lead := rfl
  subA := by simp
  subB := by simp
  id := split_nn _ _ (fun x => ev x [a, b, c, d, e, f, g]) (fun x => by simp only [ra, ev, List.length_cons, List.length_nil, Nat.reduceAdd, Nat.reduceSub, Nat.reduceMod]; grind) (fun x => by simp only [ra, ev, List.length_cons, List.length_nil, Nat.reduceAdd, Nat.reduceSub, Nat.reduceMod]; grind)
theorem Shape.rows {cs ds : List Int} (h : Shape cs ds) : Rows ds.length cs (rowA cs) (rowB cs) := by
  obtain ⟨h5, h7, hd⟩ := h.len
  rcases cases567 h5 h7 with ⟨a, b, c, d, e, rfl⟩ | ⟨a, b, c, d, e, f, rfl⟩ | ⟨a, b, c, d, e, f, g, rfl⟩
  · rw [show ds.length = 4 by simpa using hd]; exact rows5 a b c d e
  · rw [show ds.length = 5 by simpa using hd]; exact rows6 a b c d e f
  · rw [show ds.length = 6 by simpa using hd]; exact rows7 a b c d e f g
noncomputable def tops (cs : List Int) : List Int := top (rowA cs) :: tail ((rowA cs).length + (rowB cs).length + 1) (rowA cs) (rowB cs)
theorem Shape.answer {cs ds : List Int} (h : Shape cs ds) :
    ((tops cs).length ≤ ds.length → rights ds < ds.length ∧ lefts ds < ds.length) ∧
    (ds.length < (tops cs).length → (tops cs).length = ds.length + 1 ∧ chg (tops cs) = rights ds ∧ rights ds + lefts ds = ds.length) := by
  have r := h.rows
  obtain ⟨h5, h7, hd⟩ := h.len
  obtain ⟨es, R, I⟩ := h.roots
  exact routh (by omega) (by omega) r.fit r.sum (fun e => by have := r.a3; rw [e] at this; cases this) (by rw [r.lead, h.lead]; decide) R I r.id
theorem Shape.one {cs ds : List Int} (h : Shape cs ds) : (1 : Int) ∈ cs := by
  have := top_mem (ds := cs) (fun e => by have := h.len.1; rw [e] at this; cases this)
  rwa [h.lead] at this
theorem Shape.inv {cs ds : List Int} (h : Shape cs ds) {M : Int} (hM : ∀ x ∈ cs, (x.natAbs : Int) ≤ M) {wd : Nat} (hw : 15 * bet M 6 < 2 ^ wd) : RInv M (2 ^ wd) (cs.length - 1) 0 (rowA cs) (rowB cs) where
  X0 := Int.pow_pos (by decide)
  M1 := hM 1 h.one
  big := hw
  n6 := by have := h.len.2.1; omega
  len := by rcases h.rows.fit with ⟨_, e⟩ | ⟨_, e⟩ <;> omega
  sum := by have := h.rows.sum; have := h.len; omega
  ba := fun x hx => hM x (h.rows.subA x hx)
  bb := fun x hx => hM x (h.rows.subB x hx)
  g := fun e => by have := h.rows.a3; omega
theorem pow_mono {a b : Int} (h0 : 0 ≤ a) (h : a ≤ b) : ∀ k : Nat, 0 ≤ a ^ k ∧ a ^ k ≤ b ^ k
  | 0 => by simp
  | k + 1 => by
    obtain ⟨h1, h2⟩ := pow_mono h0 h k
    rw [Int.pow_succ, Int.pow_succ]
    exact ⟨Int.mul_nonneg h1 h0, Int.mul_le_mul h2 h h0 (by omega)⟩
theorem wide_big {M : Int} {B : Nat} (h1 : 1 ≤ M) (hB : M < 2 ^ B) (s : Nat) : 15 * bet M 6 < (2 : Int) ^ (13 * B + 16 + s) := by
  rw [bet6, Int.pow_add, Int.pow_add, Nat.mul_comm, Int.pow_mul]
  have h13 : M ^ 13 ≤ (2 ^ B) ^ 13 := (pow_mono (by omega) (by omega) 13).2
  have hs : (1 : Int) ≤ 2 ^ s := Int.pow_pos (by decide)
  have hp : 1 ≤ M ^ 13 := Int.pow_pos (by omega)
  have h3 : (2 ^ B) ^ 13 * 2 ^ 16 * 1 ≤ (2 ^ B) ^ 13 * 2 ^ 16 * (2 : Int) ^ s := Int.mul_le_mul_of_nonneg_left hs (by omega)
  omega
end Mine
end

section
/- the law's counts: plain -/
namespace Mine
noncomputable def negG (l : List Int) (k : Int) : List Int := if k < 0 then l ++ [k] else l
noncomputable def posG (l : List Int) (k : Int) : List Int := if k > 0 then l ++ [k] else l
theorem neg_fold : ∀ (ds l : List Int), (ds.foldl negG l).length = l.length + rights ds
  | [], l => by simp [rights]
  | d :: ds, l => by
    rw [List.foldl_cons, neg_fold ds, rights_cons, negG, nn1]
    split
    · rw [List.length_append, List.length_singleton]; omega
    · omega
theorem pos_fold : ∀ (ds l : List Int), (ds.foldl posG l).length = l.length + lefts ds
  | [], l => by simp [lefts]
  | d :: ds, l => by
    rw [List.foldl_cons, pos_fold ds, lefts_cons, posG, pn]
    split
    · rw [List.length_append, List.length_singleton]; omega
    · omega
theorem neg_len {ds ra : List Int} (h : ds.foldl negG [] = ra) : ra.length = rights ds := by rw [← h, neg_fold]; simp
theorem pos_len {ds ra : List Int} (h : ds.foldl posG [] = ra) : ra.length = lefts ds := by rw [← h, pos_fold]; simp
theorem neg_grows (l : List Int) (k : Int) : (negG l k).length ≤ l.length + 1 := by
  unfold negG; split
  · simp
  · omega
theorem pos_grows (l : List Int) (k : Int) : (posG l k).length ≤ l.length + 1 := by
  unfold posG; split
  · simp
  · omega
theorem rights_le (ds : List Int) : rights ds ≤ ds.length := List.length_filter_le _ _
theorem lefts_le (ds : List Int) : lefts ds ≤ ds.length := List.length_filter_le _ _
/-- a change of sign between place k and the next -/
noncomputable def chgG (ts : List Int) (l : List Int) (k : Int) : List Int := if decide (0 < ts.getD k.toNat 0) ≠ decide (0 < ts.getD (k + 1).toNat 0) then l ++ [k] else l
theorem chg_grows (ts l : List Int) (k : Int) : (chgG ts l k).length ≤ l.length + 1 := by
  unfold chgG; split
  · simp
  · omega
theorem chg_fold : ∀ (n : Nat) (pre ts l : List Int), ts.length = n + 1 → (((List.range' pre.length n).map fun i : Nat => (i : Int)).foldl (chgG (pre ++ ts)) l).length = l.length + chg ts
  | 0, pre, ts, l, h => by
    match ts, h with
    | [a], _ => simp [chg]
  | n + 1, pre, ts, l, h => by
    match ts, h with
    | a :: b :: r, h =>
      have hr : (b :: r).length = n + 1 := by simpa using h
      have ih := chg_fold n (pre ++ [a]) (b :: r) (chgG (pre ++ a :: b :: r) l pre.length) hr
      rw [List.append_assoc, List.singleton_append, List.length_append, List.length_singleton] at ih
      rw [List.range'_succ, List.map_cons, List.foldl_cons, ih, chg, chgG]
      have e1 : (pre ++ a :: b :: r).getD (pre.length : Int).toNat 0 = a := by simp
      have e2 : (pre ++ a :: b :: r).getD ((pre.length : Int) + 1).toNat 0 = b := by
        have : ((pre.length : Int) + 1).toNat = pre.length + 1 := by omega
        rw [this]; simp [List.getD_eq_getElem?_getD]
      rw [e1, e2]
      split
      · rw [List.length_append, List.length_singleton]; omega
      · omega
end Mine
end

section
open PySem PySem.W PySem.Spec PySem.Calls PyProof.Rows
set_option maxRecDepth 100000
set_option maxHeartbeats 0
namespace Mine
theorem news_ne {h₀ h : Heap} {L a b : Addr} {o o' : Obj} {news : List (Addr × Obj)} (N : News h₀ L h news) (h1 : (a, o) ∈ news) (h2 : (b, o') ∈ news) (hne : o ≠ o') : a ≠ b := fun e => hne (by
  have g1 := N.get h1; have g2 := N.get h2
  rw [e, g2] at g1
  exact (Option.some.inj g1).symm)
theorem list_ne_tab (vs ps : Array Value) (e : Nat) : PySem.W.listOf vs e ≠ tabObj ps := fun q => by
  have := congrArg Obj.data q
  cases this
theorem list_ne_cell (vs : Array Value) (e : Nat) {o : Obj} {v : Option Value} (ho : o.data = .cell v) : PySem.W.listOf vs e ≠ o := fun q => by
  rw [← q] at ho
  cases ho
theorem list_ne_list {vs us : List Value} {e f : Nat} (h : vs.length ≠ us.length) : PySem.W.listOf vs.toArray e ≠ PySem.W.listOf us.toArray f := fun q => h (by
  have h1 := congrArg Obj.data q
  injection h1 with h2 h3
  have := congrArg Array.size h2
  simpa using this)
structure LawS (G : Heap) (LL ls : Nat) (oT : Obj) (u : Str → Option Value) (lc ld ec ed : Nat) (cv dv : List Value) (cs ds : List Int) (h : Heap) : Prop where
  F : Fr G LL h (fun y => if y = Str.ofString "coefs" then some (.ref lc) else if y = Str.ofString "depths" then some (.ref ld) else if y = Str.ofString "script" then some (.ref ls) else u y)
  N : News G LL h [(lc, PySem.W.listOf cv.toArray ec), (ld, PySem.W.listOf dv.toArray ed), (LL + 1, oT), (37, tabObj #[]), (30, tabObj #[])]
  ic : IntsAre cv cs
  id : IntsAre dv ds
  sh : Shape cs ds
noncomputable def LawP (G : Heap) (LL ls : Nat) (oT : Obj) (s1 s' : Shared) : Prop := ∃ u lc ld ec ed cv dv cs ds h tk, s' = { s1 with heap := h, toks := tk } ∧ LawS G LL ls oT u lc ld ec ed cv dv cs ds h
theorem law_cut {G : Heap} {LL ls : Nat} {oT : Obj} {s1 : Shared} {m : Str → Option Value} {news : List (Addr × Obj)} {lc ld ec ed : Nat} {cv dv : List Value} {cs ds : List Int} {h : Heap} {tk : Nat} {Q : Flow → Shared → Prop}
    (F : Fr G LL h m) (N : News G LL h news) (h1 : m (Str.ofString "coefs") = some (.ref lc)) (h2 : m (Str.ofString "depths") = some (.ref ld)) (h3 : m (Str.ofString "script") = some (.ref ls))
    (mc : (lc, PySem.W.listOf cv.toArray ec) ∈ news) (md : (ld, PySem.W.listOf dv.toArray ed) ∈ news) (mt : (LL + 1, oT) ∈ news) (m37 : (37, tabObj #[]) ∈ news) (m30 : (30, tabObj #[]) ∈ news)
    (ic : IntsAre cv cs) (id : IntsAre dv ds) (sh : Shape cs ds) : CutQ (LawP G LL ls oT s1) Q .next { s1 with heap := h, toks := tk } := by
  refine ⟨m, lc, ld, ec, ed, cv, dv, cs, ds, h, tk, rfl, ?_, ?_, ic, id, sh⟩
  · have e : (fun y => if y = Str.ofString "coefs" then some (Value.ref lc) else if y = Str.ofString "depths" then some (Value.ref ld) else if y = Str.ofString "script" then some (Value.ref ls) else m y) = m := by
      funext y
      by_cases e1 : y = Str.ofString "coefs"
      · rw [if_pos e1, e1, h1]
      · rw [if_neg e1]
        by_cases e2 : y = Str.ofString "depths"
        · rw [if_pos e2, e2, h2]
        · rw [if_neg e2]
          by_cases e3 : y = Str.ofString "script"
          · rw [if_pos e3, e3, h3]
          · rw [if_neg e3]
    rw [e]; exact F
  · intro q hq
    rcases List.mem_cons.mp hq with rfl | hq
    · exact N _ mc
    rcases List.mem_cons.mp hq with rfl | hq
    · exact N _ md
    rcases List.mem_cons.mp hq with rfl | hq
    · exact N _ mt
    rcases List.mem_cons.mp hq with rfl | hq
    · exact N _ m37
    rcases List.mem_cons.mp hq with rfl | hq
    · exact N _ m30
    · cases hq
theorem sg_is (x : Int) : [x % 1000 - 120, 1] = sg x := rfl
theorem qq_is (u w : Int) : [(u % 1000 - 120) * (u % 1000 - 120) + (w % 50 + 1) * (w % 50 + 1), 2 * (u % 1000 - 120), 1] = qq u w := rfl
theorem shape4 {p1 p2 p3 : List Int} {x y u w : Int} (e3 : p3 = times p2 [(u % 1000 - 120) * (u % 1000 - 120) + (w % 50 + 1) * (w % 50 + 1), 2 * (u % 1000 - 120), 1]) (e2 : p2 = times p1 [y % 1000 - 120, 1]) (e1 : p1 = times [1] [x % 1000 - 120, 1]) :
    Shape p3 [x % 1000 - 120, y % 1000 - 120, u % 1000 - 120, u % 1000 - 120] := by
  rw [sg_is] at e1 e2
  rw [qq_is] at e3
  rw [e3, e2, e1]; exact Shape.four x y u w
theorem shape5 {p1 p2 p3 p4 : List Int} {x y z u w : Int} (e4 : p4 = times p3 [(u % 1000 - 120) * (u % 1000 - 120) + (w % 50 + 1) * (w % 50 + 1), 2 * (u % 1000 - 120), 1]) (e3 : p3 = times p2 [z % 1000 - 120, 1]) (e2 : p2 = times p1 [y % 1000 - 120, 1]) (e1 : p1 = times [1] [x % 1000 - 120, 1]) :
    Shape p4 [x % 1000 - 120, y % 1000 - 120, z % 1000 - 120, u % 1000 - 120, u % 1000 - 120] := by
  rw [sg_is] at e1 e2 e3
  rw [qq_is] at e4
  rw [e4, e3, e2, e1]; exact Shape.five x y z u w
theorem shape6 {p1 p2 p3 p4 : List Int} {x y u w u' w' : Int} (e4 : p4 = times p3 [(u' % 1000 - 120) * (u' % 1000 - 120) + (w' % 50 + 1) * (w' % 50 + 1), 2 * (u' % 1000 - 120), 1]) (e3 : p3 = times p2 [(u % 1000 - 120) * (u % 1000 - 120) + (w % 50 + 1) * (w % 50 + 1), 2 * (u % 1000 - 120), 1]) (e2 : p2 = times p1 [y % 1000 - 120, 1]) (e1 : p1 = times [1] [x % 1000 - 120, 1]) :
    Shape p4 [x % 1000 - 120, y % 1000 - 120, u % 1000 - 120, u % 1000 - 120, u' % 1000 - 120, u' % 1000 - 120] := by
  rw [sg_is] at e1 e2
  rw [qq_is] at e3 e4
  rw [e4, e3, e2, e1]; exact Shape.six x y u w u' w'
theorem k5 : ks2 (Int.fmod ((5 : Int) - 1 + 1) 2) 2 (5 / 2) = [1, 3] := by decide +kernel
theorem k6 : ks2 (Int.fmod ((6 : Int) - 1 + 1) 2) 2 (6 / 2) = [0, 2, 4] := by decide +kernel
theorem k7 : ks2 (Int.fmod ((7 : Int) - 1 + 1) 2) 2 (7 / 2) = [1, 3, 5] := by decide +kernel
theorem j5 : ks2 (Int.fmod ((5 : Int) - 1) 2) 2 ((5 - 1) / 2 + 1) = [0, 2, 4] := by decide +kernel
theorem j6 : ks2 (Int.fmod ((6 : Int) - 1) 2) 2 ((6 - 1) / 2 + 1) = [1, 3, 5] := by decide +kernel
theorem j7 : ks2 (Int.fmod ((7 : Int) - 1) 2) 2 ((7 - 1) / 2 + 1) = [0, 2, 4, 6] := by decide +kernel
theorem row0_of {cf ks : List Int} {n : Nat} (h : cf.length = n) (hk : ks2 (Int.fmod ((n : Int) - 1) 2) 2 ((n - 1) / 2 + 1) = ks) : row0 cf = ks.map fun k => cf.getD k.toNat 0 := by rw [row0, h, hk]
theorem row1_of {cf ks : List Int} {n : Nat} (h : cf.length = n) (hk : ks2 (Int.fmod ((n : Int) - 1 + 1) 2) 2 (n / 2) = ks) : row1 cf = ks.map fun k => cf.getD k.toNat 0 := by rw [row1, h, hk]
theorem Shape.rows_is {cs ds : List Int} (h : Shape cs ds) : row0 cs = rowA cs ∧ row1 cs = rowB cs := by
  obtain ⟨h5, h7, hd⟩ := h.len
  rcases cases567 h5 h7 with ⟨a, b, c, d, e, rfl⟩ | ⟨a, b, c, d, e, f, rfl⟩ | ⟨a, b, c, d, e, f, g, rfl⟩
  · exact ⟨row0_of (n := 5) rfl j5, row1_of (n := 5) rfl k5⟩
  · exact ⟨row0_of (n := 6) rfl j6, row1_of (n := 6) rfl k6⟩
  · exact ⟨row0_of (n := 7) rfl j7, row1_of (n := 7) rfl k7⟩
theorem wide_is {cs ds : List Int} (sh : Shape cs ds) {M : Int} (hm : M ∈ cs.map fun k => if k < 0 then -k else k) (hb : ∀ a ∈ cs.map (fun k => if k < 0 then -k else k), a ≤ M) (S : Int) :
    ∃ wd : Nat, 13 * (Builtin.Int.intBits M : Int) + 16 + S % 64 = (wd : Int) ∧ 1 ≤ wd ∧ wd ≤ 900 ∧ RInv M (2 ^ wd) (cs.length - 1) 0 (row0 cs) (row1 cs) := by
  have ab : ∀ k : Int, (if k < 0 then -k else k) = (k.natAbs : Int) := fun k => by split <;> omega
  have hM : ∀ x ∈ cs, (x.natAbs : Int) ≤ M := fun x hx => by
    have := hb _ (List.mem_map.mpr ⟨x, hx, rfl⟩)
    rwa [ab] at this
  have h1 : 1 ≤ M := hM 1 sh.one
  have h59 : Builtin.Int.intBits M ≤ 59 := by
    rw [intBits_le_iff]
    obtain ⟨x, hx, rfl⟩ := List.mem_map.mp hm
    have := n1_mem hx
    have := sh.small
    rw [ab]; omega
  have hMb : M < 2 ^ Builtin.Int.intBits M := by
    have := intBits_le_iff.mp (Nat.le_refl (Builtin.Int.intBits M))
    have h2 : M = (M.natAbs : Int) := by omega
    rw [h2]
    rw [h2, Int.natAbs_natCast] at this
    exact_mod_cast this
  refine ⟨13 * Builtin.Int.intBits M + 16 + (S % 64).toNat, by omega, by omega, by omega, ?_⟩
  rw [sh.rows_is.1, sh.rows_is.2]
  exact sh.inv hM (wide_big h1 hMb _)
theorem tops_use {prog : Program} {w : World} {p : Program} {loose : List Str} {mean : ExcName → Option Value} {mg mb : Str → Option Value}
 {dp un : Nat} {gd : Option (List Code)} {cn : Str} {cs : Scope} {ad : Addr} {ccd : Value} {cl : List (Str × Addr)} {outer : List Env} {A₀ : Around} {base h₀ : Heap} {L : Addr} {m : Str → Option Value} {s : Shared} {Q E : Value → Shared → Prop}
 (B : Below A₀ base outer h₀) (F : Fr h₀ L s.heap m) (KX : (hd.heap_39 w.params).In h₀) (T : Top p loose mean mg mb h₀) (hk : cs.kind = .function) (C34 : CodeHd base 34 30) (C41 : CodeHd base 41 37)
 {news : List (Addr × Obj)} (N : News h₀ L s.heap news) {lc ld ec ed lt : Nat} {oT : Obj} {cv dv : List Value} {cf ds : List Int}
 (mc : (lc, PySem.W.listOf cv.toArray ec) ∈ news) (md : (ld, PySem.W.listOf dv.toArray ed) ∈ news) (mt : (lt, oT) ∈ news) (m37 : (37, tabObj #[]) ∈ news) (m30 : (30, tabObj #[]) ∈ news) (g37 : 37 < lt) (g30 : 30 < lt)
 (ic : IntsAre cv cf) (sh : Shape cf ds) {v : Int} {tw : Tok} {wd : Nat} (hv : v = (wd : Int)) (hw1 : 1 ≤ wd) (hw2 : wd ≤ 900) {M : Int} (hR : RInv M (2 ^ wd) (cf.length - 1) 0 (row0 cf) (row1 cf))
 (hdp : dp + 400 < recursionLimit) (hu : un + 4000 < cLine)
 (hQ : ∀ (l : Nat) (vs : List Value) (e : Nat) (h' : Heap) (tk' : Nat) (q37 q30 : Array Value), Fr h₀ L h' m → News h₀ L h' [(l, PySem.W.listOf vs.toArray e), (ld, PySem.W.listOf dv.toArray ed), (lt, oT), (37, tabObj q37), (30, tabObj q30)] → IntsAre vs (tops cf) → Q (.ref l) { s with heap := h', toks := tk' }) :
 wpAny (model prog w) (ktrTop dp un gd cn cs L ad ccd cl outer) (call (.ref 68) [.ref lc, .int v tw]) Q E s := by
  subst hv
  have a37 : lc ≠ 37 := news_ne N mc m37 (list_ne_tab _ _ _)
  have a30 : lc ≠ 30 := news_ne N mc m30 (list_ne_tab _ _ _)
  have b37 : ld ≠ 37 := news_ne N md m37 (list_ne_tab _ _ _)
  have b30 : ld ≠ 30 := news_ne N md m30 (list_ne_tab _ _ _)
  refine tops_spec dp un gd cn cs ad ccd cl outer A₀ base h₀ L m s Q E B F KX T hk C34 C41 #[] #[] [(lc, PySem.W.listOf cv.toArray ec), (ld, PySem.W.listOf dv.toArray ed), (lt, oT)] ?_ ?_ ?_ (.inl rfl) (.inl rfl) lc cv ec cf (.head _) ic sh.len.1 sh.len.2.1 wd tw hw1 hw2 M hR hdp hu ?_
  · exact List.forall_mem_cons.mpr ⟨N _ m37, List.forall_mem_cons.mpr ⟨N _ m30, List.forall_mem_cons.mpr ⟨N _ mc, List.forall_mem_cons.mpr ⟨N _ md, List.forall_mem_cons.mpr ⟨N _ mt, List.forall_mem_nil _⟩⟩⟩⟩⟩
  · exact List.forall_mem_cons.mpr ⟨a37, List.forall_mem_cons.mpr ⟨b37, List.forall_mem_cons.mpr ⟨Nat.ne_of_gt g37, List.forall_mem_nil _⟩⟩⟩
  · exact List.forall_mem_cons.mpr ⟨a30, List.forall_mem_cons.mpr ⟨b30, List.forall_mem_cons.mpr ⟨Nat.ne_of_gt g30, List.forall_mem_nil _⟩⟩⟩
  · intro l vs e h' tk' q37 q30 F' N' i'
    rw [sh.rows_is.1, sh.rows_is.2] at i'
    refine hQ l vs e h' tk' q37 q30 F' ?_ i'
    exact List.forall_mem_cons.mpr ⟨N' _ (.head _), List.forall_mem_cons.mpr ⟨N' _ (.tail _ (.tail _ (.tail _ (.tail _ (.head _))))), List.forall_mem_cons.mpr ⟨N' _ (.tail _ (.tail _ (.tail _ (.tail _ (.tail _ (.head _)))))), List.forall_mem_cons.mpr ⟨N' _ (.tail _ (.head _)), List.forall_mem_cons.mpr ⟨N' _ (.tail _ (.tail _ (.head _))), List.forall_mem_nil _⟩⟩⟩⟩⟩
end Mine
end

section
open PySem PySem.W PySem.Spec PySem.Calls PyProof.Rows
set_option maxRecDepth 100000
set_option maxHeartbeats 0
namespace Mine
theorem cutF {M : Model} {A : Around} {E : Value → Shared → Prop} {env : Env} {Q : Flow → Shared → Prop} {s : Shared} {l : List Stmt} (n : Nat) (P : Shared → Prop) (h1 : ∀ QQ : Flow → Shared → Prop, wpAny M A (execs (l.take n) env) (CutQ P QQ) (fun _ _ => False) s) (h2 : ∀ s', P s' → wpAny M A (execs (l.drop n) env) Q E s') :
    wpAny M A (execs l env) Q E s := cut9 n P (wpAny_mono (h1 Q) (fun _ _ h => h) fun _ _ h => h.elim) h2
noncomputable def LsPost (h₀ : Heap) (L : Addr) (s₁ : Shared) (I : Addr) (it : Obj) (rest : (Str → Option Value) → List (Addr × Obj) → Prop) (Q : Flow → Shared → Prop) (f : Flow) (s₂ : Shared) : Prop := UnrPost h₀ L s₁ I it rest Q f s₂
section
variable {prog : Program} {w : World} {A : Around} {E : Value → Shared → Prop} {s : Shared} {env : Env} {h₀ : Heap} {x : Str} {body : List Stmt} {Q : Flow → Shared → Prop}
/-- a loop over a made list of ints, by an invariant of what is left -/
theorem lst_ints {ax : Addr} {lo : Obj} {vs : List Value} {ns : List Int} {n : Nat} {m₀ : Str → Option Value} {news : List (Addr × Obj)} (K : Addr → List Int → (Str → Option Value) → List (Addr × Obj) → Prop)
    (hh : A.handled = none) (F : Fr h₀ env.locals s.heap m₀) (N : News h₀ env.locals s.heap news) (hm : (ax, lo) ∈ news) (hc : lo.cls = .type "list") (hd : lo.data = .seq vs.toArray n) (hi : IntsAre vs ns)
    (h0 : ∀ I : Addr, (∀ p ∈ news, p.1 < I) → K I ns m₀ news)
    (turn : ∀ (I : Addr) (k : Int) (r : List Int) (t : Tok) m nx it h tk, it.cls = .type "list_iterator" → K I (k :: r) m nx → Fr h₀ env.locals h (fun y => if y = x then some (.int k t) else m y) → News h₀ env.locals h ((I, it) :: nx) →
      wpAny (model prog w) A (execs body env) (LsPost h₀ env.locals { s with heap := h, toks := tk } I it (fun m' n' => (ax, lo) ∈ n' ∧ K I r m' n') Q) E { s with heap := h, toks := tk })
    (done : ∀ I m nx h tk, K I [] m nx → Fr h₀ env.locals h m → News h₀ env.locals h nx → Q .next { s with heap := h, toks := tk }) :
    wpAny (model prog w) A (pyIter (.ref ax)) (fun it s₂ => LoopAtV prog w A h₀ env x body Q E it s₂) E s := by
  refine iter_listUnr hh F N hm hc hd fun I hI => ?_
  have key : ∀ (L : List Value) (ds : List Int), IntsAre L ds → ∀ m nx, K I ds m nx → ListRest prog w A E h₀ env x body Q s I (ax, lo) L m nx := by
    intro L ds hL
    induction hL with
    | nil => exact fun m nx hK => ListRest.zero fun h tk F' N' => done I m nx h tk hK F' N'
    | @cons L' ds' k t hL ih =>
      intro m nx hK
      refine ListRest.succ fun it h tk hit F' N' => ?_
      refine wpAny_mono (turn I _ _ _ m nx it h tk hit hK F' N') (fun f s₂ q => ?_) fun _ _ e => e
      cases f with
      | ret v => exact q
      | brk => exact q
      | next =>
        obtain ⟨h', tk', m', n', e, F2, N2, off, hl, hK2⟩ := q
        exact ⟨h', tk', m', n', e, F2, N2, off, hl, ih m' n' hK2⟩
      | cont =>
        obtain ⟨h', tk', m', n', e, F2, N2, off, hl, hK2⟩ := q
        exact ⟨h', tk', m', n', e, F2, N2, off, hl, ih m' n' hK2⟩
  exact key _ _ hi m₀ news (h0 I hI)
end
section
variable {prog : Program} {w : World} {A : Around} {E : Value → Shared → Prop} {s : Shared} {h₀ : Heap} {L D b : Addr} {m : Str → Option Value} {news : List (Addr × Obj)} {g : Obj → List (Addr × Obj)} {vs us : List Value} {ds fs : List Int} {e e' : Nat} {Q : Value → Shared → Prop}
theorem extend_op (F : Fr h₀ L s.heap m) (N : News h₀ L s.heap news) (hb : (b, PySem.W.listOf us.toArray e') ∈ news) (U : UpdF D (PySem.W.listOf vs.toArray e) news g) (hi : IntsAre vs ds) (hj : IntsAre us fs) (hn : 1 ≤ fs.length) (hl : ds.length + fs.length < 2 ^ 20)
    (h : ∀ ws h', Fr h₀ L h' m → News h₀ L h' (g (PySem.W.listOf ws.toArray (e + 1))) → IntsAre ws (ds ++ fs) → Q .none { s with heap := h' }) :
    wpAny (model prog w) A (call (.builtin "list.extend") [.ref D, .ref b]) Q E s := by
  have h1 := hi.length
  have h2 := hj.length
  refine kl_extend F N hb (l := vs ++ us) (by simp) (by rw [List.toList_toArray]; omega) (updF_upd U) ?_ ?_ ?_ (fun h' F' N' => h _ h' F' N' (hi.append hj))
  · have : Builtin.List.listTooLong (vs.toArray.size + us.toArray.size) = false := by
      unfold Builtin.List.listTooLong
      rw [List.size_toArray, List.size_toArray, PySem.sizeLine_eq]
      exact decide_eq_false (by omega)
    rw [this, Bool.and_false]; exact Bool.false_ne_true
  · rw [List.toList_toArray, PySem.sizeLine_eq]; omega
  · rw [List.size_toArray, List.size_toArray, PySem.sizeLine_eq]; omega
end
noncomputable def LawA (ns : List Int) (G : Heap) (LL ls : Nat) (oT : Obj) (s1 s' : Shared) : Prop := ∃ (u : Str → Option Value) (lg eg : Nat) (wg : List Value) (h : Heap) (tk : Nat), s' = { s1 with heap := h, toks := tk } ∧
  Fr G LL h (fun y => if y = Str.ofString "given" then some (.ref lg) else if y = Str.ofString "script" then some (.ref ls) else u y) ∧
  News G LL h [(lg, PySem.W.listOf wg.toArray eg), (LL + 1, oT), (37, tabObj #[]), (30, tabObj #[])] ∧ IntsAre wg (given ns)
theorem lawA_cut {ns : List Int} {G : Heap} {LL ls : Nat} {oT : Obj} {s1 : Shared} {m : Str → Option Value} {news : List (Addr × Obj)} {lg eg : Nat} {wg : List Value} {h : Heap} {tk : Nat} {Q : Flow → Shared → Prop}
    (F : Fr G LL h m) (N : News G LL h news) (h1 : m (Str.ofString "given") = some (.ref lg)) (h3 : m (Str.ofString "script") = some (.ref ls))
    (mg : (lg, PySem.W.listOf wg.toArray eg) ∈ news) (mt : (LL + 1, oT) ∈ news) (m37 : (37, tabObj #[]) ∈ news) (m30 : (30, tabObj #[]) ∈ news) (ig : IntsAre wg (given ns)) :
    CutQ (LawA ns G LL ls oT s1) Q .next { s1 with heap := h, toks := tk } :=
  ⟨m, lg, eg, wg, h, tk, rfl, fr_is F (put_eq h1 (put_eq h3 rfl)), List.forall_mem_cons.mpr ⟨N _ mg, List.forall_mem_cons.mpr ⟨N _ mt, List.forall_mem_cons.mpr ⟨N _ m37, List.forall_mem_cons.mpr ⟨N _ m30, List.forall_mem_nil _⟩⟩⟩⟩, ig⟩
noncomputable def prodS (xs : List Int) : List Int := xs.foldl (fun a x => times a (sg x)) [1]
noncomputable def depS (xs : List Int) : List Int := xs.map fun x => x % 1000 - 120
theorem prodS_snoc (xs : List Int) (x : Int) : prodS (xs ++ [x]) = times (prodS xs) (sg x) := by simp [prodS]
theorem depS_snoc (xs : List Int) (x : Int) : depS (xs ++ [x]) = depS xs ++ [x % 1000 - 120] := by simp [depS]
theorem list2 {xs : List Int} (h : xs.length = 2) : ∃ a b, xs = [a, b] := by
  match xs, h with
  | [a, b], _ => exact ⟨a, b, rfl⟩
theorem list3 {xs : List Int} (h : xs.length = 3) : ∃ a b c, xs = [a, b, c] := by
  match xs, h with
  | [a, b, c], _ => exact ⟨a, b, c, rfl⟩
theorem prodS2 (a b : Int) : prodS [a, b] = times (times [1] (sg a)) (sg b) := rfl
theorem prodS3 (a b c : Int) : prodS [a, b, c] = times (times (times [1] (sg a)) (sg b)) (sg c) := rfl
theorem shape_one {xs cs ds p : List Int} {u w : Int} (hx : xs.length = 2 ∨ xs.length = 3) (hc : cs = prodS xs) (hd : ds = depS xs)
    (e : p = times cs [(u % 1000 - 120) * (u % 1000 - 120) + (w % 50 + 1) * (w % 50 + 1), 2 * (u % 1000 - 120), 1]) : Shape p (ds ++ [u % 1000 - 120, u % 1000 - 120]) := by
  rw [qq_is] at e
  rw [e, hc, hd]
  rcases hx with hx | hx
  · obtain ⟨a, b, rfl⟩ := list2 hx
    rw [prodS2]; exact Shape.four a b u w
  · obtain ⟨a, b, c, rfl⟩ := list3 hx
    rw [prodS3]; exact Shape.five a b c u w
theorem shape_two {xs cs ds p q : List Int} {u w u' w' : Int} (hx : xs.length = 2) (hc : cs = prodS xs) (hd : ds = depS xs)
    (e : p = times cs [(u % 1000 - 120) * (u % 1000 - 120) + (w % 50 + 1) * (w % 50 + 1), 2 * (u % 1000 - 120), 1])
    (e' : q = times p [(u' % 1000 - 120) * (u' % 1000 - 120) + (w' % 50 + 1) * (w' % 50 + 1), 2 * (u' % 1000 - 120), 1]) : Shape q ((ds ++ [u % 1000 - 120, u % 1000 - 120]) ++ [u' % 1000 - 120, u' % 1000 - 120]) := by
  rw [qq_is] at e e'
  rw [e', e, hc, hd]
  obtain ⟨a, b, rfl⟩ := list2 hx
  rw [prodS2]; exact Shape.six a b u w u' w'
theorem n1_prodS : ∀ xs : List Int, (prodS xs).length = xs.length + 1 ∧ n1 (prodS xs) ≤ 880 ^ xs.length := by
  intro xs
  have key : ∀ n (xs : List Int), xs.length = n → (prodS xs).length = n + 1 ∧ n1 (prodS xs) ≤ 880 ^ n := by
    intro n
    induction n with
    | zero =>
      intro xs h
      have : xs = [] := List.length_eq_zero_iff.mp h
      subst this; exact ⟨rfl, n1_one⟩
    | succ n ih =>
      intro xs h
      obtain ⟨ys, y, rfl⟩ : ∃ ys y, xs = ys ++ [y] := ⟨xs.dropLast, xs.getLast (fun e => by rw [e] at h; cases h), (List.dropLast_concat_getLast _).symm⟩
      have hy : ys.length = n := by simpa using h
      obtain ⟨h1, h2⟩ := ih ys hy
      rw [prodS_snoc]
      exact ⟨by rw [times_len, h1, len_sg]; omega, by rw [Nat.pow_succ]; exact n1_times h2 (n1_single y)⟩
  exact key _ xs rfl
theorem n1_prodS_le {xs : List Int} {k : Nat} (h : xs.length ≤ k) : n1 (prodS xs) ≤ 880 ^ k := Nat.le_trans (n1_prodS xs).2 (Nat.pow_le_pow_right (by decide) h)
inductive Dbl (D : Nat) : Nat → List (Addr × Obj) → List (Int × Int) → Prop
  | one (l t e : Nat) (u w : Int) (tu tw : Tok) : l ≠ D → t ≠ D → Dbl D l [(l, PySem.W.listOf #[.ref t] e), (t, { cls := .type "tuple", data := .seq #[.int u tu, .int w tw] })] [(u, w)]
  | two (l t t' e : Nat) (u w u' w' : Int) (tu tw tu' tw' : Tok) : l ≠ D → t ≠ D → t' ≠ D → Dbl D l [(l, PySem.W.listOf #[.ref t, .ref t'] e), (t, { cls := .type "tuple", data := .seq #[.int u tu, .int w tw] }), (t', { cls := .type "tuple", data := .seq #[.int u' tu', .int w' tw'] })] [(u, w), (u', w')]
theorem Dbl.off {D l : Nat} {dbl : List (Addr × Obj)} {ps : List (Int × Int)} (h : Dbl D l dbl ps) : ∀ q ∈ dbl, q.1 ≠ D := by
  cases h with
  | one t e u w tu tw h1 h2 => exact List.forall_mem_cons.mpr ⟨h1, List.forall_mem_cons.mpr ⟨h2, List.forall_mem_nil _⟩⟩
  | two t t' e u w u' w' tu tw tu' tw' h1 h2 h3 => exact List.forall_mem_cons.mpr ⟨h1, List.forall_mem_cons.mpr ⟨h2, List.forall_mem_cons.mpr ⟨h3, List.forall_mem_nil _⟩⟩⟩
noncomputable def Cnt (xs : List Int) (ps : List (Int × Int)) : Prop := (xs.length = 2 ∧ ps.length = 1) ∨ (xs.length = 3 ∧ ps.length = 1) ∨ (xs.length = 2 ∧ ps.length = 2)
structure LawBS (G : Heap) (LL ls : Nat) (oT : Obj) (h : Heap) (u : Str → Option Value) (lc ldp lsg esg ldb : Nat) (vsg : List Value) (xs : List Int) (dbl : List (Addr × Obj)) (ps : List (Int × Int)) (t1 : Tok) : Prop where
  F : Fr G LL h (fun y => if y = Str.ofString "coefs" then some (.ref lc) else if y = Str.ofString "depths" then some (.ref ldp) else if y = Str.ofString "singles" then some (.ref lsg) else if y = Str.ofString "doubles" then some (.ref ldb) else if y = Str.ofString "script" then some (.ref ls) else u y)
  N : News G LL h ((lc, PySem.W.listOf #[.int 1 t1] 0) :: (ldp, PySem.W.listOf #[] 0) :: (lsg, PySem.W.listOf vsg.toArray esg) :: (LL + 1, oT) :: (37, tabObj #[]) :: (30, tabObj #[]) :: dbl)
  ig : IntsAre vsg xs
  db : Dbl ldp ldb dbl ps
  cn : Cnt xs ps
  nc : lc ≠ ldp
  ns : lsg ≠ ldp
  nt : LL + 1 ≠ ldp
  n7 : 37 ≠ ldp
  n0 : 30 ≠ ldp
noncomputable def LawB (G : Heap) (LL ls : Nat) (oT : Obj) (s1 s' : Shared) : Prop := ∃ h tk u lc ldp lsg esg ldb vsg xs dbl ps t1, s' = { s1 with heap := h, toks := tk } ∧ LawBS G LL ls oT h u lc ldp lsg esg ldb vsg xs dbl ps t1
theorem lawB_cut {G : Heap} {LL ls : Nat} {oT : Obj} {s1 : Shared} {m : Str → Option Value} {news dbl : List (Addr × Obj)} {lc ldp lsg esg ldb : Nat} {vsg : List Value} {xs : List Int} {ps : List (Int × Int)} {h : Heap} {tk : Nat} {t1 : Tok} {Q : Flow → Shared → Prop}
    (F : Fr G LL h m) (N : News G LL h news) (h1 : m (Str.ofString "coefs") = some (.ref lc)) (h2 : m (Str.ofString "depths") = some (.ref ldp)) (h3 : m (Str.ofString "singles") = some (.ref lsg)) (h4 : m (Str.ofString "doubles") = some (.ref ldb)) (h5 : m (Str.ofString "script") = some (.ref ls))
    (mc : (lc, PySem.W.listOf #[.int 1 t1] 0) ∈ news) (md : (ldp, PySem.W.listOf #[] 0) ∈ news) (ms : (lsg, PySem.W.listOf vsg.toArray esg) ∈ news) (mt : (LL + 1, oT) ∈ news) (m37 : (37, tabObj #[]) ∈ news) (m30 : (30, tabObj #[]) ∈ news)
    (ig : IntsAre vsg xs) (db : Dbl ldp ldb dbl ps) (mb : ∀ q ∈ dbl, q ∈ news) (cn : Cnt xs ps) (nc : lc < ldp) (ns : lsg < ldp) (nt : LL + 1 < ldp) (n7 : 37 < ldp) (n0 : 30 < ldp) :
    CutQ (LawB G LL ls oT s1) Q .next { s1 with heap := h, toks := tk } :=
  ⟨h, tk, m, lc, ldp, lsg, esg, ldb, vsg, xs, dbl, ps, t1, rfl, fr_is F (put_eq h1 (put_eq h2 (put_eq h3 (put_eq h4 (put_eq h5 rfl))))),
    List.forall_mem_cons.mpr ⟨N _ mc, List.forall_mem_cons.mpr ⟨N _ md, List.forall_mem_cons.mpr ⟨N _ ms, List.forall_mem_cons.mpr ⟨N _ mt, List.forall_mem_cons.mpr ⟨N _ m37, List.forall_mem_cons.mpr ⟨N _ m30, fun q hq => N q (mb q hq)⟩⟩⟩⟩⟩⟩,
    ig, db, cn, Nat.ne_of_lt nc, Nat.ne_of_lt ns, Nat.ne_of_lt nt, Nat.ne_of_lt n7, Nat.ne_of_lt n0⟩
theorem lawB_cut1 {G : Heap} {LL ls : Nat} {oT : Obj} {s1 : Shared} {m : Str → Option Value} {news : List (Addr × Obj)} {lc ldp lsg esg ldb : Nat} {vsg : List Value} {xs : List Int} {h : Heap} {tk : Nat} {t1 : Tok} {Q : Flow → Shared → Prop} {t e : Nat} {u w : Int} {tu tw : Tok}
    (F : Fr G LL h m) (N : News G LL h news) (h1 : m (Str.ofString "coefs") = some (.ref lc)) (h2 : m (Str.ofString "depths") = some (.ref ldp)) (h3 : m (Str.ofString "singles") = some (.ref lsg)) (h4 : m (Str.ofString "doubles") = some (.ref ldb)) (h5 : m (Str.ofString "script") = some (.ref ls))
    (mc : (lc, PySem.W.listOf #[.int 1 t1] 0) ∈ news) (md : (ldp, PySem.W.listOf #[] 0) ∈ news) (ms : (lsg, PySem.W.listOf vsg.toArray esg) ∈ news) (mt : (LL + 1, oT) ∈ news) (m37 : (37, tabObj #[]) ∈ news) (m30 : (30, tabObj #[]) ∈ news)
    (ig : IntsAre vsg xs) (hx : xs.length = 2 ∨ xs.length = 3) (ml : (ldb, PySem.W.listOf #[.ref t] e) ∈ news) (m1 : (t, { cls := .type "tuple", data := .seq #[.int u tu, .int w tw] }) ∈ news) (nc : lc < ldp) (ns : lsg < ldp) (nt : LL + 1 < ldp) (n7 : 37 < ldp) (n0 : 30 < ldp) (nl : ldb < ldp) (k1 : t < ldp) :
    CutQ (LawB G LL ls oT s1) Q .next { s1 with heap := h, toks := tk } :=
  lawB_cut F N h1 h2 h3 h4 h5 mc md ms mt m37 m30 ig (Dbl.one ldb t e u w tu tw (Nat.ne_of_lt nl) (Nat.ne_of_lt k1)) (List.forall_mem_cons.mpr ⟨ml, List.forall_mem_cons.mpr ⟨m1, List.forall_mem_nil _⟩⟩) (hx.elim (fun a => .inl ⟨a, rfl⟩) fun a => .inr (.inl ⟨a, rfl⟩)) nc ns nt n7 n0
theorem lawB_cut2 {G : Heap} {LL ls : Nat} {oT : Obj} {s1 : Shared} {m : Str → Option Value} {news : List (Addr × Obj)} {lc ldp lsg esg ldb : Nat} {vsg : List Value} {xs : List Int} {h : Heap} {tk : Nat} {t1 : Tok} {Q : Flow → Shared → Prop} {t t' e : Nat} {u w u' w' : Int} {tu tw tu' tw' : Tok}
    (F : Fr G LL h m) (N : News G LL h news) (h1 : m (Str.ofString "coefs") = some (.ref lc)) (h2 : m (Str.ofString "depths") = some (.ref ldp)) (h3 : m (Str.ofString "singles") = some (.ref lsg)) (h4 : m (Str.ofString "doubles") = some (.ref ldb)) (h5 : m (Str.ofString "script") = some (.ref ls))
    (mc : (lc, PySem.W.listOf #[.int 1 t1] 0) ∈ news) (md : (ldp, PySem.W.listOf #[] 0) ∈ news) (ms : (lsg, PySem.W.listOf vsg.toArray esg) ∈ news) (mt : (LL + 1, oT) ∈ news) (m37 : (37, tabObj #[]) ∈ news) (m30 : (30, tabObj #[]) ∈ news)
    (ig : IntsAre vsg xs) (hx : xs.length = 2) (ml : (ldb, PySem.W.listOf #[.ref t, .ref t'] e) ∈ news) (m1 : (t, { cls := .type "tuple", data := .seq #[.int u tu, .int w tw] }) ∈ news) (m2 : (t', { cls := .type "tuple", data := .seq #[.int u' tu', .int w' tw'] }) ∈ news) (nc : lc < ldp) (ns : lsg < ldp) (nt : LL + 1 < ldp) (n7 : 37 < ldp) (n0 : 30 < ldp) (nl : ldb < ldp) (k1 : t < ldp) (k2 : t' < ldp) :
    CutQ (LawB G LL ls oT s1) Q .next { s1 with heap := h, toks := tk } :=
  lawB_cut F N h1 h2 h3 h4 h5 mc md ms mt m37 m30 ig (Dbl.two ldb t t' e u w u' w' tu tw tu' tw' (Nat.ne_of_lt nl) (Nat.ne_of_lt k1) (Nat.ne_of_lt k2)) (List.forall_mem_cons.mpr ⟨ml, List.forall_mem_cons.mpr ⟨m1, List.forall_mem_cons.mpr ⟨m2, List.forall_mem_nil _⟩⟩⟩) (.inr (.inr ⟨hx, rfl⟩)) nc ns nt n7 n0
/-- the state of the first loop, with r left -/
structure LoopS (LL ls : Nat) (oT : Obj) (ldp lsg esg ldb : Nat) (vsg : List Value) (xs : List Int) (dbl : List (Addr × Obj)) (I : Addr) (r : List Int) (m : Str → Option Value) (nx : List (Addr × Obj)) (u : Str → Option Value) (lc ec ed : Nat) (cv dv : List Value) (don : List Int) : Prop where
  hm : m = fun y => if y = Str.ofString "coefs" then some (.ref lc) else if y = Str.ofString "depths" then some (.ref ldp) else if y = Str.ofString "singles" then some (.ref lsg) else if y = Str.ofString "doubles" then some (.ref ldb) else if y = Str.ofString "script" then some (.ref ls) else u y
  hn : nx = (lc, PySem.W.listOf cv.toArray ec) :: (ldp, PySem.W.listOf dv.toArray ed) :: (lsg, PySem.W.listOf vsg.toArray esg) :: (LL + 1, oT) :: (37, tabObj #[]) :: (30, tabObj #[]) :: dbl
  ic : IntsAre cv (prodS don)
  id : IntsAre dv (depS don)
  sp : xs = don ++ r
  nc : lc ≠ ldp
  off : ∀ q ∈ nx, q.1 ≠ I
noncomputable def LoopK (LL ls : Nat) (oT : Obj) (ldp lsg esg ldb : Nat) (vsg : List Value) (xs : List Int) (dbl : List (Addr × Obj)) (I : Addr) (r : List Int) (m : Str → Option Value) (nx : List (Addr × Obj)) : Prop := ∃ u lc ec ed cv dv don, LoopS LL ls oT ldp lsg esg ldb vsg xs dbl I r m nx u lc ec ed cv dv don
structure LawCS (G : Heap) (LL ls : Nat) (oT : Obj) (h : Heap) (u : Str → Option Value) (lc ldp ec ed ldb : Nat) (cv dv : List Value) (xs : List Int) (dbl : List (Addr × Obj)) (ps : List (Int × Int)) : Prop where
  F : Fr G LL h (fun y => if y = Str.ofString "coefs" then some (.ref lc) else if y = Str.ofString "depths" then some (.ref ldp) else if y = Str.ofString "doubles" then some (.ref ldb) else if y = Str.ofString "script" then some (.ref ls) else u y)
  N : News G LL h ((lc, PySem.W.listOf cv.toArray ec) :: (ldp, PySem.W.listOf dv.toArray ed) :: (LL + 1, oT) :: (37, tabObj #[]) :: (30, tabObj #[]) :: dbl)
  ic : IntsAre cv (prodS xs)
  id : IntsAre dv (depS xs)
  db : Dbl ldp ldb dbl ps
  cn : Cnt xs ps
  nc : lc ≠ ldp
  nt : LL + 1 ≠ ldp
  n7 : 37 ≠ ldp
  n0 : 30 ≠ ldp
noncomputable def LawC (G : Heap) (LL ls : Nat) (oT : Obj) (s1 s' : Shared) : Prop := ∃ h tk u lc ldp ec ed ldb cv dv xs dbl ps, s' = { s1 with heap := h, toks := tk } ∧ LawCS G LL ls oT h u lc ldp ec ed ldb cv dv xs dbl ps
theorem lawC_cut {G : Heap} {LL ls : Nat} {oT : Obj} {s1 : Shared} {m : Str → Option Value} {dbl : List (Addr × Obj)} {lc ldp lsg esg ec ed ldb : Nat} {cv dv vsg : List Value} {xs : List Int} {ps : List (Int × Int)} {h : Heap} {tk : Nat} {Q : Flow → Shared → Prop}
    (F : Fr G LL h m) (N : News G LL h ((lc, PySem.W.listOf cv.toArray ec) :: (ldp, PySem.W.listOf dv.toArray ed) :: (lsg, PySem.W.listOf vsg.toArray esg) :: (LL + 1, oT) :: (37, tabObj #[]) :: (30, tabObj #[]) :: dbl))
    (h1 : m (Str.ofString "coefs") = some (.ref lc)) (h2 : m (Str.ofString "depths") = some (.ref ldp)) (h4 : m (Str.ofString "doubles") = some (.ref ldb)) (h5 : m (Str.ofString "script") = some (.ref ls))
    (ic : IntsAre cv (prodS xs)) (id : IntsAre dv (depS xs)) (db : Dbl ldp ldb dbl ps) (cn : Cnt xs ps) (nc : lc ≠ ldp) (nt : LL + 1 ≠ ldp) (n7 : 37 ≠ ldp) (n0 : 30 ≠ ldp) : CutQ (LawC G LL ls oT s1) Q .next { s1 with heap := h, toks := tk } :=
  ⟨h, tk, m, lc, ldp, ec, ed, ldb, cv, dv, xs, dbl, ps, rfl, fr_is F (put_eq h1 (put_eq h2 (put_eq h4 (put_eq h5 rfl)))),
    List.forall_mem_cons.mpr ⟨N _ (.head _), List.forall_mem_cons.mpr ⟨N _ (.tail _ (.head _)), fun q hq => N q (.tail _ (.tail _ (.tail _ hq)))⟩⟩, ic, id, db, cn, nc, nt, n7, n0⟩
theorem ls_end {G : Heap} {L LL ls : Nat} {oT it : Obj} {s₁ : Shared} {m : Str → Option Value} {dbl : List (Addr × Obj)} {I ldp lsg esg l9 e9 ed ldb : Nat} {vsg vs9 ws : List Value} {xs don r : List Int} {k : Int} {h : Heap} {tk : Nat} {Q : Flow → Shared → Prop}
    (F : Fr G L h m) (N : News G L h ((ldp, PySem.W.listOf ws.toArray (ed + 1)) :: (l9, PySem.W.listOf vs9.toArray e9) :: (I, it) :: (lsg, PySem.W.listOf vsg.toArray esg) :: (LL + 1, oT) :: (37, tabObj #[]) :: (30, tabObj #[]) :: dbl))
    (h1 : m (Str.ofString "coefs") = some (.ref l9)) (h2 : m (Str.ofString "depths") = some (.ref ldp)) (h3 : m (Str.ofString "singles") = some (.ref lsg)) (h4 : m (Str.ofString "doubles") = some (.ref ldb)) (h5 : m (Str.ofString "script") = some (.ref ls))
    {ps cs : List Int} (c9 : ps = times cs [k % 1000 - 120, 1]) (hcs : prodS don = cs) (i9 : IntsAre vs9 ps) (iw : IntsAre ws (depS don ++ [k % 1000 - 120])) (sp : xs = don ++ k :: r) (nl : l9 ≠ ldp) (nI : l9 ≠ I)
    {lc : Nat} {o1 o2 : Obj} (off : ∀ q ∈ (lc, o1) :: (ldp, o2) :: (lsg, PySem.W.listOf vsg.toArray esg) :: (LL + 1, oT) :: (37, tabObj #[]) :: (30, tabObj #[]) :: dbl, q.1 ≠ I) :
    LsPost G L s₁ I it (fun m' n' => (lsg, PySem.W.listOf vsg.toArray esg) ∈ n' ∧ LoopK LL ls oT ldp lsg esg ldb vsg xs dbl I r m' n') Q .next { s₁ with heap := h, toks := tk } := by
  have offP : ∀ q ∈ (l9, PySem.W.listOf vs9.toArray e9) :: (ldp, PySem.W.listOf ws.toArray (ed + 1)) :: (lsg, PySem.W.listOf vsg.toArray esg) :: (LL + 1, oT) :: (37, tabObj #[]) :: (30, tabObj #[]) :: dbl, q.1 ≠ I :=
    List.forall_mem_cons.mpr ⟨nI, List.forall_mem_cons.mpr ⟨off (ldp, o2) (.tail _ (.head _)), fun q hq => off q (.tail _ (.tail _ hq))⟩⟩
  refine ⟨h, tk, m, (l9, PySem.W.listOf vs9.toArray e9) :: (ldp, PySem.W.listOf ws.toArray (ed + 1)) :: (lsg, PySem.W.listOf vsg.toArray esg) :: (LL + 1, oT) :: (37, tabObj #[]) :: (30, tabObj #[]) :: dbl, rfl, F, ?_, offP, .tail _ (.tail _ (.head _)),
    m, l9, e9, ed + 1, vs9, ws, don ++ [k], (put_eq h1 (put_eq h2 (put_eq h3 (put_eq h4 (put_eq h5 rfl))))).symm, rfl, ?_, ?_, ?_, nl, offP⟩
  · exact List.forall_mem_cons.mpr ⟨N _ (.tail _ (.tail _ (.head _))), List.forall_mem_cons.mpr ⟨N _ (.tail _ (.head _)), List.forall_mem_cons.mpr ⟨N _ (.head _), fun q hq => N q (.tail _ (.tail _ (.tail _ hq)))⟩⟩⟩
  · rw [prodS_snoc, hcs, ← sg_is, ← c9]; exact i9
  · rw [depS_snoc]; exact iw
  · rw [sp, List.append_assoc]; rfl
end Mine
end

section
open PySem PySem.W PySem.Spec PySem.Calls PyProof.Rows
set_option maxRecDepth 100000
set_option maxHeartbeats 0
namespace Mine
noncomputable def Gate (_ : Nat) : Prop := True
theorem gate (n : Nat) : Gate n := trivial
section
variable {prog : Program} {w : World} {A : Around} {E : Value → Shared → Prop} {s : Shared} {Q : Value → Shared → Prop}
theorem lt_yes {a b : Int} {t u : Tok} (hab : a < b) (h : Q (.bool true) s) : wpAny (model prog w) A (compareOp .Lt (.int a t) (.int b u)) Q E s := lt_int (by rw [decide_eq_true hab]; exact h)
theorem eq_yes {a b : Int} {t u : Tok} (hab : a = b) (h : Q (.bool true) s) : wpAny (model prog w) A (compareOp .Eq (.int a t) (.int b u)) Q E s := eq_int (by subst hab; simpa using h)
end
theorem chg_law {ts : List Int} {n : Nat} (h : ts.length = n + 1) : ((rangeKs 0 n).foldl (chgG ts) []).length = chg ts := by
  have q := chg_fold n [] ts [] h
  have e : rangeKs 0 n = (List.range' ([] : List Int).length n).map fun i : Nat => (i : Int) := by
    rw [rangeKs, List.range_eq_range']
    exact List.map_congr_left fun i _ => by omega
  rw [e, show chgG ts = chgG ([] ++ ts) from rfl, q]; simp
structure Ans (ds rt : List Int) : Prop where
  n4 : 4 ≤ ds.length
  n6 : ds.length ≤ 6
  r1 : 1 ≤ rt.length
  r7 : rt.length ≤ 7
  lo : rt.length ≤ ds.length → rights ds < ds.length ∧ lefts ds < ds.length
  hi : ds.length < rt.length → rt.length = ds.length + 1 ∧ chg rt = rights ds ∧ rights ds + lefts ds = ds.length
theorem Shape.ans {cs ds : List Int} (sh : Shape cs ds) : Ans ds (tops cs) := by
  have l := sh.len
  have a := sh.answer
  refine ⟨by omega, by omega, by rw [tops, List.length_cons]; omega, ?_, a.1, a.2⟩
  by_cases q : (tops cs).length ≤ ds.length
  · omega
  · have := (a.2 (by omega)).1; omega
structure LawTS (G : Heap) (LL : Nat) (h : Heap) (u : Str → Option Value) (ld ed lt eT : Nat) (tdg : Tok) (oT : Obj) (q37 q30 : Array Value) (dv vT : List Value) (ds rt : List Int) : Prop where
  F : Fr G LL h (fun y => if y = Str.ofString "degree" then some (.int (ds.length : Int) tdg) else if y = Str.ofString "depths" then some (.ref ld) else u y)
  N : News G LL h [(lt, PySem.W.listOf vT.toArray eT), (ld, PySem.W.listOf dv.toArray ed), (LL + 1, oT), (37, tabObj q37), (30, tabObj q30)]
  dT : oT.data = .cell (some (.ref lt))
  id : IntsAre dv ds
  iT : IntsAre vT rt
  an : Ans ds rt
noncomputable def LawT (G : Heap) (LL : Nat) (s1 s' : Shared) : Prop := ∃ h tk u ld ed lt eT tdg oT q37 q30 dv vT ds rt, s' = { s1 with heap := h, toks := tk } ∧ LawTS G LL h u ld ed lt eT tdg oT q37 q30 dv vT ds rt
theorem lawT_cut {G : Heap} {LL : Nat} {s1 : Shared} {m : Str → Option Value} {news : List (Addr × Obj)} {ld ed lt eT : Nat} {dg : Int} {tdg : Tok} {oT : Obj} {q37 q30 : Array Value} {dv vT : List Value} {ds rt : List Int} {h : Heap} {tk : Nat} {Q : Flow → Shared → Prop}
    (F : Fr G LL h m) (N : News G LL h news) (dT : oT.data = .cell (some (.ref lt))) (h1 : m (Str.ofString "degree") = some (.int dg tdg)) (e : dg = (ds.length : Int)) (h2 : m (Str.ofString "depths") = some (.ref ld))
    (ml : (lt, PySem.W.listOf vT.toArray eT) ∈ news) (md : (ld, PySem.W.listOf dv.toArray ed) ∈ news) (mt : (LL + 1, oT) ∈ news) (m37 : (37, tabObj q37) ∈ news) (m30 : (30, tabObj q30) ∈ news) (id : IntsAre dv ds) (iT : IntsAre vT rt) (an : Ans ds rt) :
    CutQ (LawT G LL s1) Q .next { s1 with heap := h, toks := tk } := by
  subst e
  exact ⟨h, tk, m, ld, ed, lt, eT, tdg, oT, q37, q30, dv, vT, ds, rt, rfl, fr_is F (put_eq h1 (put_eq h2 rfl)),
    List.forall_mem_cons.mpr ⟨N _ ml, List.forall_mem_cons.mpr ⟨N _ md, List.forall_mem_cons.mpr ⟨N _ mt, List.forall_mem_cons.mpr ⟨N _ m37, List.forall_mem_cons.mpr ⟨N _ m30, List.forall_mem_nil _⟩⟩⟩⟩⟩, dT, id, iT, an⟩
structure LawRS (G : Heap) (LL : Nat) (h : Heap) (u : Str → Option Value) (lt eT : Nat) (tdg t1 t2 : Tok) (oT : Obj) (q37 q30 : Array Value) (vT : List Value) (ds rt : List Int) : Prop where
  F : Fr G LL h (fun y => if y = Str.ofString "degree" then some (.int (ds.length : Int) tdg) else if y = Str.ofString "right" then some (.int (rights ds : Int) t1) else if y = Str.ofString "left" then some (.int (lefts ds : Int) t2) else u y)
  N : News G LL h [(lt, PySem.W.listOf vT.toArray eT), (LL + 1, oT), (37, tabObj q37), (30, tabObj q30)]
  dT : oT.data = .cell (some (.ref lt))
  iT : IntsAre vT rt
  an : Ans ds rt
noncomputable def LawR (G : Heap) (LL : Nat) (s1 s' : Shared) : Prop := ∃ h tk u lt eT tdg t1 t2 oT q37 q30 vT ds rt, s' = { s1 with heap := h, toks := tk } ∧ LawRS G LL h u lt eT tdg t1 t2 oT q37 q30 vT ds rt
theorem lawR_cut {G : Heap} {LL : Nat} {s1 : Shared} {m : Str → Option Value} {news : List (Addr × Obj)} {lt eT : Nat} {r l : Nat} {tdg t1 t2 : Tok} {oT : Obj} {q37 q30 : Array Value} {vT : List Value} {ds rt : List Int} {h : Heap} {tk : Nat} {Q : Flow → Shared → Prop}
    (F : Fr G LL h m) (N : News G LL h news) (dT : oT.data = .cell (some (.ref lt))) (h1 : m (Str.ofString "degree") = some (.int (ds.length : Int) tdg)) (h2 : m (Str.ofString "right") = some (.int (r : Int) t1)) (h3 : m (Str.ofString "left") = some (.int (l : Int) t2)) (e2 : r = rights ds) (e3 : l = lefts ds)
    (ml : (lt, PySem.W.listOf vT.toArray eT) ∈ news) (mt : (LL + 1, oT) ∈ news) (m37 : (37, tabObj q37) ∈ news) (m30 : (30, tabObj q30) ∈ news) (iT : IntsAre vT rt) (an : Ans ds rt) :
    CutQ (LawR G LL s1) Q .next { s1 with heap := h, toks := tk } := by
  subst e2; subst e3
  exact ⟨h, tk, m, lt, eT, tdg, t1, t2, oT, q37, q30, vT, ds, rt, rfl, fr_is F (put_eq h1 (put_eq h2 (put_eq h3 rfl))),
    List.forall_mem_cons.mpr ⟨N _ ml, List.forall_mem_cons.mpr ⟨N _ mt, List.forall_mem_cons.mpr ⟨N _ m37, List.forall_mem_cons.mpr ⟨N _ m30, List.forall_mem_nil _⟩⟩⟩⟩, dT, iT, an⟩
end Mine
end

section
open PySem PySem.W PySem.Spec PySem.Calls PyProof.Rows
set_option maxRecDepth 100000
set_option maxHeartbeats 0
namespace Mine
noncomputable def LwPost (h₀ : Heap) (L : Addr) (s₁ : Shared) (its : List (Addr × Obj)) (rest : (Str → Option Value) → List (Addr × Obj) → Prop) (Q : Flow → Shared → Prop) (f : Flow) (s₂ : Shared) : Prop := UnrPostW h₀ L s₁ its rest Q f s₂
section
variable {prog : Program} {w : World} {A : Around} {E : Value → Shared → Prop} {s : Shared} {env : Env} {h₀ : Heap} {target : Expr} {body : List Stmt} {Q : Flow → Shared → Prop}
/-- a loop over a made list of any values, by an invariant of what is left -/
theorem lst_vals {ax : Addr} {lo : Obj} {vs : List Value} {n : Nat} {m₀ : Str → Option Value} {news : List (Addr × Obj)} (K : Addr → List Value → (Str → Option Value) → List (Addr × Obj) → Prop)
    (hh : A.handled = none) (F : Fr h₀ env.locals s.heap m₀) (N : News h₀ env.locals s.heap news) (hm : (ax, lo) ∈ news) (hc : lo.cls = .type "list") (hd : lo.data = .seq vs.toArray n)
    (h0 : ∀ I : Addr, (∀ p ∈ news, p.1 < I) → K I vs m₀ news)
    (turn : ∀ (I : Addr) (v : Value) (r : List Value) m nx it h tk, it.cls = .type "list_iterator" → K I (v :: r) m nx → Fr h₀ env.locals h m → News h₀ env.locals h ((I, it) :: nx) →
      wpAny (model prog w) A (assign target env v) (fun _ s₂ => wpAny (model prog w) A (execs body env) (LwPost h₀ env.locals { s with heap := h, toks := tk } [(I, it)] (fun m' n' => (ax, lo) ∈ n' ∧ K I r m' n') Q) E s₂) E { s with heap := h, toks := tk })
    (done : ∀ I m nx h tk, K I [] m nx → Fr h₀ env.locals h m → News h₀ env.locals h nx → Q .next { s with heap := h, toks := tk }) :
    wpAny (model prog w) A (pyIter (.ref ax)) (fun it s₂ => TurnsAt prog w A h₀ env target body Q E it s₂) E s := by
  refine iter_listTurns hh F N hm hc hd fun I hI => ?_
  have key : ∀ (L : List Value) m nx, K I L m nx → ItemsRest prog w A E h₀ env target body Q s [(I, "list_iterator")] [(ax, lo)] (L.map .val) m nx := by
    intro L
    induction L with
    | nil => exact fun m nx hK => ItemsRest.zero fun h tk F' N' => done I m nx h tk hK F' N'
    | cons v L ih =>
      intro m nx hK
      refine ItemsRest.val fun h tk F' => AllObj.cons fun it hit => AllObj.nil fun N' => ?_
      refine wpAny_mono (turn I v L m nx it h tk hit hK F' N') (fun _ s₂ q => wpAny_mono q (fun f s₃ q2 => ?_) fun _ _ e => e) fun _ _ e => e
      cases f with
      | ret v => exact q2
      | brk => exact q2
      | next =>
        obtain ⟨h', tk', m', n', e, F2, N2, off, hl, hK2⟩ := q2
        exact ⟨h', tk', m', n', e, F2, N2, off, ⟨hl, trivial⟩, ih m' n' hK2⟩
      | cont =>
        obtain ⟨h', tk', m', n', e, F2, N2, off, hl, hK2⟩ := q2
        exact ⟨h', tk', m', n', e, F2, N2, off, ⟨hl, trivial⟩, ih m' n' hK2⟩
  exact key vs m₀ news (h0 I hI)
end
noncomputable def prodD (xs : List Int) (don : List (Int × Int)) : List Int := don.foldl (fun a p => times a (qq p.1 p.2)) (prodS xs)
noncomputable def depD (xs : List Int) (don : List (Int × Int)) : List Int := don.foldl (fun a p => a ++ [p.1 % 1000 - 120, p.1 % 1000 - 120]) (depS xs)
theorem prodD_snoc (xs : List Int) (don : List (Int × Int)) (u w : Int) : prodD xs (don ++ [(u, w)]) = times (prodD xs don) (qq u w) := by simp [prodD]
theorem depD_snoc (xs : List Int) (don : List (Int × Int)) (u w : Int) : depD xs (don ++ [(u, w)]) = depD xs don ++ [u % 1000 - 120, u % 1000 - 120] := by simp [depD]
theorem prodD_le {xs : List Int} {don : List (Int × Int)} (hx : xs.length ≤ 3) (hd : don.length ≤ 1) :
    (prodD xs don).length = xs.length + 1 + 2 * don.length ∧ n1 (prodD xs don) ≤ 880 ^ 3 * 776900 ∧ (depD xs don).length ≤ 5 := by
  have h1 := n1_prodS xs
  have h2 := n1_prodS_le hx
  have h3 : (depS xs).length ≤ 3 := by rw [depS, List.length_map]; exact hx
  match don, hd with
  | [], _ => exact ⟨h1.1, Nat.le_trans h2 (Nat.le_mul_of_pos_right _ (by decide)), Nat.le_trans h3 (by decide)⟩
  | [(u, w)], _ =>
    refine ⟨?_, n1_times h2 (n1_double u w), ?_⟩
    · show (times (prodS xs) (qq u w)).length = _
      rw [times_len, h1.1, len_qq]; rfl
    · show (depS xs ++ [_, _]).length ≤ 5
      rw [List.length_append]; exact Nat.add_le_add_right h3 2
theorem shape_D {xs : List Int} {ps : List (Int × Int)} (cn : Cnt xs ps) : Shape (prodD xs ps) (depD xs ps) := by
  rcases cn with ⟨h1, h2⟩ | ⟨h1, h2⟩ | ⟨h1, h2⟩
  · match ps, h2 with
    | [(u, w)], _ => exact shape_one (.inl h1) rfl rfl (by rw [qq_is]; rfl)
  · match ps, h2 with
    | [(u, w)], _ => exact shape_one (.inr h1) rfl rfl (by rw [qq_is]; rfl)
  · match ps, h2 with
    | [(u, w), (u', w')], _ => exact shape_two (u := u) (w := w) (u' := u') (w' := w') (p := times (prodS xs) (qq u w)) h1 rfl rfl (by rw [qq_is]) (by rw [qq_is]; rfl)
inductive Prs (dbl : List (Addr × Obj)) : List Value → List (Int × Int) → Prop
  | nil : Prs dbl [] []
  | cons (t : Nat) (u w : Int) (tu tw : Tok) (vs : List Value) (ps : List (Int × Int)) : (t, { cls := .type "tuple", data := .seq #[.int u tu, .int w tw] }) ∈ dbl → Prs dbl vs ps → Prs dbl (.ref t :: vs) ((u, w) :: ps)
theorem Dbl.parts {D l : Nat} {dbl : List (Addr × Obj)} {ps : List (Int × Int)} (h : Dbl D l dbl ps) : ∃ vds e, (l, PySem.W.listOf (List.toArray vds) e) ∈ dbl ∧ Prs dbl vds ps := by
  cases h with
  | one t e u w tu tw h1 h2 => exact ⟨[.ref t], e, .head _, .cons t u w tu tw [] [] (.tail _ (.head _)) .nil⟩
  | two t t' e u w u' w' tu tw tu' tw' h1 h2 h3 => exact ⟨[.ref t, .ref t'], e, .head _, .cons t u w tu tw _ _ (.tail _ (.head _)) (.cons t' u' w' tu' tw' [] [] (.tail _ (.tail _ (.head _))) .nil)⟩
structure LoopDS (LL ls : Nat) (oT : Obj) (ldp ldb : Nat) (xs : List Int) (dbl : List (Addr × Obj)) (ps : List (Int × Int)) (I : Addr) (r : List Value) (m : Str → Option Value) (nx : List (Addr × Obj)) (u : Str → Option Value) (lc ec ed : Nat) (cv dv : List Value) (don psr : List (Int × Int)) : Prop where
  hm : m = fun y => if y = Str.ofString "coefs" then some (.ref lc) else if y = Str.ofString "depths" then some (.ref ldp) else if y = Str.ofString "doubles" then some (.ref ldb) else if y = Str.ofString "script" then some (.ref ls) else u y
  hn : nx = (lc, PySem.W.listOf cv.toArray ec) :: (ldp, PySem.W.listOf dv.toArray ed) :: (LL + 1, oT) :: (37, tabObj #[]) :: (30, tabObj #[]) :: dbl
  ic : IntsAre cv (prodD xs don)
  id : IntsAre dv (depD xs don)
  rem : Prs dbl r psr
  sp : ps = don ++ psr
  nc : lc ≠ ldp
  off : ∀ q ∈ nx, q.1 ≠ I
noncomputable def LoopD (LL ls : Nat) (oT : Obj) (ldp ldb : Nat) (xs : List Int) (dbl : List (Addr × Obj)) (ps : List (Int × Int)) (I : Addr) (r : List Value) (m : Str → Option Value) (nx : List (Addr × Obj)) : Prop := ∃ u lc ec ed cv dv don psr, LoopDS LL ls oT ldp ldb xs dbl ps I r m nx u lc ec ed cv dv don psr
theorem ld_end {G : Heap} {L LL ls : Nat} {oT it od : Obj} {s₁ : Shared} {m : Str → Option Value} {dbl : List (Addr × Obj)} {I ldp l9 e9 ed ldb lD eb : Nat} {vs9 ws vds r : List Value} {xs : List Int} {ps don psr : List (Int × Int)} {u w : Int} {h : Heap} {tk : Nat} {Q : Flow → Shared → Prop}
    (F : Fr G L h m) (N : News G L h ((ldp, PySem.W.listOf ws.toArray (ed + 1)) :: (lD, od) :: (l9, PySem.W.listOf vs9.toArray e9) :: (I, it) :: (LL + 1, oT) :: (37, tabObj #[]) :: (30, tabObj #[]) :: dbl))
    (h1 : m (Str.ofString "coefs") = some (.ref l9)) (h2 : m (Str.ofString "depths") = some (.ref ldp)) (h4 : m (Str.ofString "doubles") = some (.ref ldb)) (h5 : m (Str.ofString "script") = some (.ref ls))
    {p cs : List Int} (c9 : p = times cs [(u % 1000 - 120) * (u % 1000 - 120) + (w % 50 + 1) * (w % 50 + 1), 2 * (u % 1000 - 120), 1]) (hcs : prodD xs don = cs) (i9 : IntsAre vs9 p) {ds : List Int} (hds : depD xs don = ds) (iw : IntsAre ws (ds ++ [u % 1000 - 120, u % 1000 - 120])) (hr : Prs dbl r psr) (sp : ps = don ++ (u, w) :: psr)
    (hb : (ldb, PySem.W.listOf vds.toArray eb) ∈ dbl) (nl : l9 ≠ ldp) (nI : l9 ≠ I)
    {lc : Nat} {o1 o2 : Obj} (off : ∀ q ∈ (lc, o1) :: (ldp, o2) :: (LL + 1, oT) :: (37, tabObj #[]) :: (30, tabObj #[]) :: dbl, q.1 ≠ I) :
    LwPost G L s₁ [(I, it)] (fun m' n' => (ldb, PySem.W.listOf vds.toArray eb) ∈ n' ∧ LoopD LL ls oT ldp ldb xs dbl ps I r m' n') Q .next { s₁ with heap := h, toks := tk } := by
  have offP : ∀ q ∈ (l9, PySem.W.listOf vs9.toArray e9) :: (ldp, PySem.W.listOf ws.toArray (ed + 1)) :: (LL + 1, oT) :: (37, tabObj #[]) :: (30, tabObj #[]) :: dbl, q.1 ≠ I :=
    List.forall_mem_cons.mpr ⟨nI, List.forall_mem_cons.mpr ⟨off (ldp, o2) (.tail _ (.head _)), fun q hq => off q (.tail _ (.tail _ hq))⟩⟩
  refine ⟨h, tk, m, (l9, PySem.W.listOf vs9.toArray e9) :: (ldp, PySem.W.listOf ws.toArray (ed + 1)) :: (LL + 1, oT) :: (37, tabObj #[]) :: (30, tabObj #[]) :: dbl, rfl, F, ?_, fun p hp q hq => ?_, .tail _ (.tail _ (.tail _ (.tail _ (.tail _ hb)))),
    m, l9, e9, ed + 1, vs9, ws, don ++ [(u, w)], psr, (put_eq h1 (put_eq h2 (put_eq h4 (put_eq h5 rfl)))).symm, rfl, ?_, ?_, hr, ?_, nl, offP⟩
  · exact List.forall_mem_cons.mpr ⟨N _ (.tail _ (.tail _ (.tail _ (.head _)))), List.forall_mem_cons.mpr ⟨N _ (.tail _ (.tail _ (.head _))), List.forall_mem_cons.mpr ⟨N _ (.head _), fun q hq => N q (.tail _ (.tail _ (.tail _ (.tail _ hq))))⟩⟩⟩
  · rw [List.mem_singleton.mp hq]; exact offP p hp
  · rw [prodD_snoc, hcs, ← qq_is, ← c9]; exact i9
  · rw [depD_snoc, hds]; exact iw
  · rw [sp, List.append_assoc]; rfl
end Mine
end

section
open PySem PySem.W PySem.Spec PySem.Calls PyProof.Rows
set_option maxRecDepth 100000
set_option maxHeartbeats 0
namespace Mine
section
local macro_rules | `(tactic| k_room) => `(tactic| ktr_room)
local macro_rules | `(tactic| k_mem) => `(tactic| assumption)
local macro_rules | `(tactic| walk_at $s:str) => `(tactic| k_extra $s)
theorem lit4 (a b c d : Int) (t u v w : Tok) : IntsAre [.int a t, .int b u, .int c v, .int d w] [a, b, c, d] := .cons _ _ (.cons _ _ (.cons _ _ (.cons _ _ .nil)))
theorem law_holds : PySem.Challenge.rw_wn0139_01.Holds := by
  refine hd ?_
  k_with_none
  k_with "binaryOp Mod int int" => (k_here; refine mod_op (by first | decide | (simp; done) | (simp only [List.length_cons, List.length_nil]; omega)) ?_; intro _)
  k_with "binaryOp Mult int int" => (k_here; refine mulD_op (by exact IntMulOk.of_left (intBits_le_64 (by omega) (by omega))) ?_; intro _)
  k_with "call ref" => first | (k_here; k_dflt (refine' tim_use (by k_asm) (by k_asm) (by k_asm) (by k_asm) (by exact rfl) (by k_asm) (by k_mem) (by k_mem) (by k_extra "tints") (by k_extra "tints") (by first | exact (rfl : List.length [_] = 1) | assumption) (by first | exact (rfl : List.length [_, _] = 2) | exact (rfl : List.length [_, _, _] = 3)) (by first | exact n1_one | assumption) (by first | exact n1_single _ | exact n1_double _ _) (by first | decide | omega | (simp; done) | (simp only [List.length_cons, List.length_nil]; omega)) (by first | decide | omega | (simp; done) | (simp only [List.length_cons, List.length_nil]; omega)) (by first | decide | omega | (simp; done) | (simp only [List.length_cons, List.length_nil]; omega)) (by first | decide | omega | (simp; done) | (simp only [List.length_cons, List.length_nil]; omega)) (by decide) (by decide) (by ktr_room) (by ktr_units) ?_); intro _ _ _ _ _ _ _ _ g9 _ _ _ _; (try k_lt g9); (try (revert g9; intro _)); (try dsimp only); (try k_fold)) | (refine Stop.on ?_)
  k_with "binaryOp Add ref ref" => ((rename Mark => hM9); k_here; k_dflt (refine' cat_op (by k_asm) (by k_asm) (by k_mem) (by k_extra "ints") (by k_mem) (by k_extra "ints") (by k_extra "len") (by k_extra "len") ?_); intro _ _ _ _ _ g9 _; (try k_lt g9); (try (revert g9; intro _)))
  k_with "subscriptTail Name Slice ref ref" => ((rename Mark => hM9); k_here; k_dflt (refine' slice_opV (by k_asm) (by k_asm) (by kmk_list) (by kmk_part) (by kmk_part) (by k_extra "ints") (by k_extra "pick") (by k_extra "len") ?_ (by with_unfolding_all rfl)); intro _ _ _ _ _ g9 _; (try k_lt g9); (try (revert g9; intro _)))
  k_with "call builtin:len" => ((rename Mark => hM9); k_here; k_dflt (refine' len_op (by k_asm) (by k_mem) (by k_extra "ints") (by k_extra "len") ?_))
  k_with "subscriptTail" => ((rename Mark => hM9); (with_reducible show wpAny _ _ (subscriptTail _ (PySem.Expr.Slice _ _ none _) (Value.ref _) (Value.ref _)) _ _ _); k_here; k_dflt (refine' slice_opV (by k_asm) (by k_asm) (by kmk_list) (by kmk_part) (by kmk_part) (by k_extra "ints") (by k_extra "pick") (by k_extra "len") ?_ (by with_unfolding_all rfl)); intro _ _ _ _ _ g9 _; (try k_lt g9); (try (revert g9; intro _)))
  k_with "eval ListComp" => ((rename Mark => hM9); k_here; lct_look; k_dflt (refine LCt.ListComp_T (F₀ := by k_asm) (by with_unfolding_all rfl) (by decide) (by rfl) (by decide) (by rfl) ?_))
  k_with "CompSrcT" => refine Stop.on ?_
  k_with "compareOp Eq ref ref" => refine Stop.on ?_
  k_with "exec If" => ((with_reducible show wpAny _ _ (exec (Stmt.If (Expr.Compare _ [CmpOp.LtE] _ _) _ _ _) _) _ _ _); (rename Gate 1 => hM9); refine Stop.on ?_)
  k_with "compareOp LtE int int" => ((rename Mark => hM9); refine Stop.on ?_)
  k_with "compareOp Lt int int" => ((rename Gate 2 => hM9); k_here; refine lt_yes (by omega) ?_)
  k_with "compareOp Eq int int" => ((rename Gate 2 => hM9); k_here; refine eq_yes (by omega) ?_)
  k_with "truthy bool" => ((rename Gate 3 => hM9); refine Stop.on ?_)
  k_with "subscriptTail" => ((rename Gate 3 => hM9); k_here; (with_reducible show wpAny _ _ (subscriptTail _ _ (Value.ref _) (Value.int _ _)) _ _ _); (k_dflt (refine' item_op (by k_asm) (by k_mem) (by k_extra "ints") (by omega) (by omega) (by omega) ?_ (by with_unfolding_all rfl)); intro _ _ e9; subst e9))
  k_with "pyIter ref" => ((rename Gate 5 => hM9); refine Stop.on ?_)
  k_with "exec For Tuple Name cons nil" => ((rename Gate 5 => hM9); k_here; (rename Fr _ _ _ _ => lF'); (with_unfolding_all refine' For_turns lF' ?_; k_whole))
  k_with "call builtin:list.append" => ((rename Gate 6 => hM9); refine Stop.on ?_)
  k_with "call builtin:list.extend" => ((rename Gate 6 => hM9); refine Stop.on ?_)
  w_strict (
    k_go0
    all_goals try k_fold
    rename_i s0 s1 mg mb G Y fa o pm cd doc ho hcd hg X V T B TE TW ns hs9 hlay hL0 hr9 hl29 wA wB ls vs wC hLs ra9 w19 r09 hI hrW hc63 hcT hD9 h1 tk1 oT dT X0 XX TX KB F0 cH0 N0 lz
    refine opq fun QQ0 hq0 => ?_
    refine cutF 1 (LawA ns (ghostOf s1.heap [(41, 37), (34, 30)]) s1.heap.objs.size ls oT s1) ?A0 ?A1
    · intro QQ
      dsimp only
      simp only [List.take_succ_cons, List.take_zero]
      have hM := mark
      have hn63 : ns.length < 64 := by omega
      k_with "ints" => first | assumption | exact lit4 _ _ _ _ _ _ _ _
      k_with "len" => first | omega | (simp only [List.length_take, List.length_cons, List.length_nil]; omega)
      k_with "pick" => first | exact kmk_upto (by k_extra "ints") (by decide) | exact kmk_from (by k_extra "ints") (by omega)
      k_steps
      k_dflt (refine' lawA_cut ?aF ?aN ?a1 ?a3 ?ag ?ao ?a7 ?a0 ?ai; (case aF => k_asm); (case aN => k_asm); (case a1 => with_unfolding_all rfl); (case a3 => with_unfolding_all rfl); (case ag => k_mem); (case ao => k_mem); (case a7 => k_mem); (case a0 => k_mem); (case ai => assumption))
    · intro s' hA
      obtain ⟨u, lg, eg, wg, hg', tkg, rfl, FA, NA, ig⟩ := hA
      clear F0 N0
      dsimp only
      simp only [List.drop_succ_cons, List.drop_zero]
      refine cutF 6 (LawB (ghostOf s1.heap [(41, 37), (34, 30)]) s1.heap.objs.size ls oT s1) ?B0 ?B1
      · intro QQ
        simp only [List.take_succ_cons, List.take_zero]
        have hM := mark
        k_with "ints" => first | assumption | exact lit4 _ _ _ _ _ _ _ _
        k_with "len" => first | omega | (simp only [List.length_take, List.length_cons, List.length_nil]; omega)
        k_with "pick" => first | exact kmk_upto (by k_extra "ints") (by decide) | exact kmk_from (by k_extra "ints") (by omega)
        rcases given_split ig with ⟨a, b, c, d, u1, u2, u3, u4, rfl⟩ | ⟨a, b, c, d, e, u1, u2, u3, u4, u5, rfl⟩ | ⟨a, b, c, d, e, f, u1, u2, u3, u4, u5, u6, rfl⟩
        · (rename Mark => hM9); clear hM9
          k_steps
          k_dflt (refine' lawB_cut1 ?b1F ?b1N ?b11 ?b12 ?b13 ?b14 ?b15 ?b1c ?b1d ?b1s ?b1t ?b1e ?b1f ?b1i ?b1x ?b1l ?b1m1 ?b1g1 ?b1g2 ?b1g3 ?b1g4 ?b1g5 ?b1g6 ?b1g7; (case b1F => k_asm); (case b1N => k_asm); (case b11 => with_unfolding_all rfl); (case b12 => with_unfolding_all rfl); (case b13 => with_unfolding_all rfl); (case b14 => with_unfolding_all rfl); (case b15 => with_unfolding_all rfl); (case b1c => k_mem); (case b1d => k_mem); (case b1s => k_mem); (case b1t => k_mem); (case b1e => k_mem); (case b1f => k_mem); (case b1i => exact .cons _ _ (.cons _ _ (.nil))); (case b1x => exact Or.inl rfl); (case b1l => k_mem); (case b1m1 => k_mem); (case b1g1 => omega); (case b1g2 => omega); (case b1g3 => omega); (case b1g4 => omega); (case b1g5 => omega); (case b1g6 => omega); (case b1g7 => omega))
        · (rename Mark => hM9); clear hM9
          k_steps
          k_dflt (refine' lawB_cut1 ?b2F ?b2N ?b21 ?b22 ?b23 ?b24 ?b25 ?b2c ?b2d ?b2s ?b2t ?b2e ?b2f ?b2i ?b2x ?b2l ?b2m1 ?b2g1 ?b2g2 ?b2g3 ?b2g4 ?b2g5 ?b2g6 ?b2g7; (case b2F => k_asm); (case b2N => k_asm); (case b21 => with_unfolding_all rfl); (case b22 => with_unfolding_all rfl); (case b23 => with_unfolding_all rfl); (case b24 => with_unfolding_all rfl); (case b25 => with_unfolding_all rfl); (case b2c => k_mem); (case b2d => k_mem); (case b2s => k_mem); (case b2t => k_mem); (case b2e => k_mem); (case b2f => k_mem); (case b2i => exact .cons _ _ (.cons _ _ (.cons _ _ (.nil)))); (case b2x => exact Or.inr rfl); (case b2l => k_mem); (case b2m1 => k_mem); (case b2g1 => omega); (case b2g2 => omega); (case b2g3 => omega); (case b2g4 => omega); (case b2g5 => omega); (case b2g6 => omega); (case b2g7 => omega))
        · (rename Mark => hM9); clear hM9
          k_steps
          k_dflt (refine' lawB_cut2 ?b3F ?b3N ?b31 ?b32 ?b33 ?b34 ?b35 ?b3c ?b3d ?b3s ?b3t ?b3e ?b3f ?b3i ?b3x ?b3l ?b3m1 ?b3m2 ?b3g1 ?b3g2 ?b3g3 ?b3g4 ?b3g5 ?b3g6 ?b3g7 ?b3g8; (case b3F => k_asm); (case b3N => k_asm); (case b31 => with_unfolding_all rfl); (case b32 => with_unfolding_all rfl); (case b33 => with_unfolding_all rfl); (case b34 => with_unfolding_all rfl); (case b35 => with_unfolding_all rfl); (case b3c => k_mem); (case b3d => k_mem); (case b3s => k_mem); (case b3t => k_mem); (case b3e => k_mem); (case b3f => k_mem); (case b3i => exact .cons _ _ (.cons _ _ (.nil))); (case b3x => exact rfl); (case b3l => k_mem); (case b3m1 => k_mem); (case b3m2 => k_mem); (case b3g1 => omega); (case b3g2 => omega); (case b3g3 => omega); (case b3g4 => omega); (case b3g5 => omega); (case b3g6 => omega); (case b3g7 => omega); (case b3g8 => omega))
      · intro s' hB
        obtain ⟨hb, tkb, ub, lc, ldp, lsg, esg, ldb, vsg, xs, dbl, ps, tb1, rfl, SB⟩ := hB
        obtain ⟨FB, NB, igB, db, cn, nc, nsg, nt, n7, n0⟩ := SB
        clear FA NA ig
        simp only [List.drop_succ_cons, List.drop_zero]
        refine cutF 1 (LawC (ghostOf s1.heap [(41, 37), (34, 30)]) s1.heap.objs.size ls oT s1) ?C0 ?C1
        · intro QQ
          simp only [List.take_succ_cons, List.take_zero]
          have hG5 := gate 5
          have hG6 := gate 6
          have dbo := db.off
          have hx3 : xs.length ≤ 3 := by unfold Cnt at cn; omega
          k_steps
          (rename Gate 5 => hM9); clear hM9
          refine Stop.off ?_
          k_dflt (refine' lst_ints (lo := PySem.W.listOf vsg.toArray esg) (vs := vsg) (n := esg) (LoopK s1.heap.objs.size ls oT ldp lsg esg ldb vsg xs dbl) ?chh ?cF NB ?cm rfl rfl ?ci ?c0 ?ct ?cd; (case chh => exact rfl); (case cF => k_asm); (case ci => assumption))
          case cm => exact .tail _ (.tail _ (.head _))
          case c0 =>
            intro I hI
            refine ⟨ub, lc, 0, 0, [.int 1 tb1], [], [], rfl, rfl, .cons _ _ .nil, .nil, rfl, nc, fun q hq => Nat.ne_of_lt (hI q hq)⟩
          case cd =>
            intro I m nx h tk hK F N
            obtain ⟨u, lc, ec, ed, cv, dv, don, K⟩ := hK
            obtain ⟨rfl, rfl, kic, kid, ksp, knc, koff⟩ := K
            rw [List.append_nil] at ksp
            subst ksp
            clear NB
            k_steps
            k_dflt (refine' lawC_cut ?pF ?pN ?p1 ?p2 ?p3 ?p4 kic kid db cn knc nt n7 n0; (case pF => k_asm); (case pN => k_asm); (case p1 => with_unfolding_all rfl); (case p2 => with_unfolding_all rfl); (case p3 => with_unfolding_all rfl); (case p4 => with_unfolding_all rfl))
          case ct =>
            intro I k r t m nx it h tk hit hK FK NK
            obtain ⟨u, lc, ec, ed, cv, dv, don, K⟩ := hK
            obtain ⟨rfl, rfl, kic, kid, ksp, knc, koff⟩ := K
            have hdon : don.length ≤ 2 := by
              have := congrArg List.length ksp
              rw [List.length_append, List.length_cons] at this; omega
            have hcl := (n1_prodS don).1
            have hcn := n1_prodS_le hdon
            obtain ⟨cs, hcs⟩ : ∃ cs, prodS don = cs := ⟨_, rfl⟩
            rw [hcs] at kic hcl hcn
            clear NB
            k_with "tints" => first | assumption | exact IntsAre.cons _ _ (IntsAre.cons _ _ IntsAre.nil)
            k_steps
            (rename Gate 6 => hM9); clear hM9
            refine Stop.off ?_
            rename_i l9 vs9 e9 h9 tk9 ps9 c9 q9 n9 i9 g9 hx Fx Nx t9
            have nld : l9 ≠ ldp := Nat.ne_of_gt g9.2.2.2.1
            have nlI : l9 ≠ I := Nat.ne_of_gt g9.2.1
            have NL := news_sub (news' := (ldp, PySem.W.listOf dv.toArray ed) :: (l9, PySem.W.listOf vs9.toArray e9) :: (I, it) :: (lsg, PySem.W.listOf vsg.toArray esg) :: (s1.heap.objs.size + 1, oT) :: (37, tabObj #[]) :: (30, tabObj #[]) :: dbl) Nx
              (List.forall_mem_cons.mpr ⟨.tail _ (.tail _ (.tail _ (.tail _ (.head _)))), List.forall_mem_cons.mpr ⟨.head _, List.forall_mem_cons.mpr ⟨.tail _ (.tail _ (.head _)), fun q hq => .tail _ (.tail _ (.tail _ (.tail _ (.tail _ hq))))⟩⟩⟩)
            clear Nx
            k_dflt (refine' append_op (vs := dv) (ds := depS don) ?F7 NL (.head ?U7) kid ?len7 ?_; (case F7 => k_asm))
            case U7 => exact List.forall_mem_cons.mpr ⟨nld, List.forall_mem_cons.mpr ⟨fun e => koff _ (.tail _ (.head _)) e.symm, List.forall_mem_cons.mpr ⟨nsg, List.forall_mem_cons.mpr ⟨nt, List.forall_mem_cons.mpr ⟨n7, List.forall_mem_cons.mpr ⟨n0, dbo⟩⟩⟩⟩⟩⟩
            case len7 => simp only [depS, List.length_map]; omega
            intro ws hw Fw Nw iw
            (try dsimp only at Nw)
            clear NL
            k_steps
            k_dflt (refine' ls_end ?eF ?eN ?e1 ?e2 ?e3 ?e4 ?e5 c9 hcs i9 iw ksp nld nlI koff; (case eF => k_asm); (case eN => k_asm); (case e1 => with_unfolding_all rfl); (case e2 => with_unfolding_all rfl); (case e3 => with_unfolding_all rfl); (case e4 => with_unfolding_all rfl); (case e5 => with_unfolding_all rfl))
        · intro s' hC
          obtain ⟨hc', tkc, uc, lc, ldp, ec, ed, ldb, cv, dv, xs, dbl, ps, rfl, SC⟩ := hC
          obtain ⟨FC, NC, icC, idC, db, cn, nc, nt, n7, n0⟩ := SC
          clear NB
          simp only [List.drop_succ_cons, List.drop_zero]
          refine cutF 1 (LawP (ghostOf s1.heap [(41, 37), (34, 30)]) s1.heap.objs.size ls oT s1) ?D0 ?D1
          · intro QQ
            simp only [List.take_succ_cons, List.take_zero]
            have hG5 := gate 5
            have hG6 := gate 6
            have dbo := db.off
            have hx3 : xs.length ≤ 3 := by unfold Cnt at cn; omega
            have hp2 : ps.length ≤ 2 := by unfold Cnt at cn; omega
            obtain ⟨vds, eb, hlb, hprs⟩ := db.parts
            k_steps
            (rename Gate 5 => hM9); clear hM9
            refine Stop.off ?_
            k_dflt (refine' lst_vals (lo := PySem.W.listOf vds.toArray eb) (vs := vds) (n := eb) (LoopD s1.heap.objs.size ls oT ldp ldb xs dbl ps) ?dhh ?dF NC ?dm rfl rfl ?d0 ?dt ?dd; (case dhh => exact rfl); (case dF => k_asm))
            case dm => exact .tail _ (.tail _ (.tail _ (.tail _ (.tail _ hlb))))
            case d0 =>
              intro I hI
              refine ⟨uc, lc, ec, ed, cv, dv, [], ps, rfl, rfl, icC, idC, hprs, rfl, nc, fun q hq => Nat.ne_of_lt (hI q hq)⟩
            case dd =>
              intro I m nx h tk hK F N
              obtain ⟨u, lc, ec, ed, cv, dv, don, psr, K⟩ := hK
              obtain ⟨rfl, rfl, kic, kid, krem, ksp, knc, koff⟩ := K
              cases krem
              rw [List.append_nil] at ksp
              subst ksp
              clear NC
              k_steps
              k_dflt (refine' law_cut ?zF ?zN ?z1 ?z2 ?z3 ?zc ?zd ?zt ?ze ?zf kic kid (shape_D cn); (case zF => k_asm); (case zN => k_asm); (case z1 => with_unfolding_all rfl); (case z2 => with_unfolding_all rfl); (case z3 => with_unfolding_all rfl); (case zc => exact .head _); (case zd => exact .tail _ (.head _)); (case zt => exact .tail _ (.tail _ (.head _))); (case ze => exact .tail _ (.tail _ (.tail _ (.head _)))); (case zf => exact .tail _ (.tail _ (.tail _ (.tail _ (.head _))))))
            case dt =>
              intro I v r m nx it h tk hit hK FK NK
              obtain ⟨u, lc, ec, ed, cv, dv, don, psr, K⟩ := hK
              obtain ⟨rfl, rfl, kic, kid, krem, ksp, knc, koff⟩ := K
              cases krem with
              | cons t pu pw tu tw vr pr hmt hr =>
              have hdon : don.length ≤ 1 := by
                have := congrArg List.length ksp
                rw [List.length_append, List.length_cons] at this; omega
              obtain ⟨hcl, hcn, hdl⟩ := prodD_le hx3 hdon
              obtain ⟨cs, hcs⟩ : ∃ cs, prodD xs don = cs := ⟨_, rfl⟩
              obtain ⟨ds, hds⟩ : ∃ ds, depD xs don = ds := ⟨_, rfl⟩
              rw [hcs] at kic hcl hcn
              rw [hds] at kid hdl
              have hT := News.isTup NK (.tail _ (.tail _ (.tail _ (.tail _ (.tail _ (.tail _ hmt))))))
              clear NC
              k_with "tints" => first | assumption | exact IntsAre.cons _ _ (IntsAre.cons _ _ (IntsAre.cons _ _ IntsAre.nil))
              k_steps
              refine Stop.off ?_
              rename_i l9 vs9 e9 h9 tk9 ps9 c9 q9 n9 i9 g9 hE lD hD FD ND l1D
              have n9d : l9 ≠ ldp := Nat.ne_of_gt g9.2.2.2.1
              have n9I : l9 ≠ I := Nat.ne_of_gt g9.2.1
              have nDd : lD ≠ ldp := Nat.ne_of_gt l1D.2.2.2.2.1
              have NL := news_sub (news' := (ldp, PySem.W.listOf dv.toArray ed) :: (lD, _) :: (l9, PySem.W.listOf vs9.toArray e9) :: (I, it) :: (s1.heap.objs.size + 1, oT) :: (37, tabObj #[]) :: (30, tabObj #[]) :: dbl) ND
                (List.forall_mem_cons.mpr ⟨.tail _ (.tail _ (.tail _ (.tail _ (.tail _ (.head _))))), List.forall_mem_cons.mpr ⟨.head _, List.forall_mem_cons.mpr ⟨.tail _ (.head _), List.forall_mem_cons.mpr ⟨.tail _ (.tail _ (.tail _ (.head _))), fun q hq => .tail _ (.tail _ (.tail _ (.tail _ (.tail _ (.tail _ hq)))))⟩⟩⟩⟩)
              clear ND
              k_dflt (refine' extend_op ?Fg NL (.tail _ (.head _)) (.head ?Ug) kid (.cons _ _ (.cons _ _ .nil)) ?ng ?leng ?_; (case Fg => k_asm))
              case Ug => exact List.forall_mem_cons.mpr ⟨nDd, List.forall_mem_cons.mpr ⟨n9d, List.forall_mem_cons.mpr ⟨fun e => koff _ (.tail _ (.head _)) e.symm, List.forall_mem_cons.mpr ⟨nt, List.forall_mem_cons.mpr ⟨n7, List.forall_mem_cons.mpr ⟨n0, dbo⟩⟩⟩⟩⟩⟩
              case ng => exact Nat.le_of_ble_eq_true rfl
              case leng => simp only [List.length_cons, List.length_nil]; omega
              intro ws hw Fw Nw iw
              (try dsimp only at Nw)
              clear NL
              k_steps
              k_dflt (refine' ld_end ?gF ?gN ?g1 ?g2 ?g4 ?g5 c9 hcs i9 hds iw hr ksp hlb n9d n9I koff; (case gF => k_asm); (case gN => k_asm); (case g1 => with_unfolding_all rfl); (case g2 => with_unfolding_all rfl); (case g4 => with_unfolding_all rfl); (case g5 => with_unfolding_all rfl))
          · intro s' hP
            obtain ⟨u, lc, ld, ec, ed, cv, dv, cs, ds, h2, tk2, rfl, S⟩ := hP
            obtain ⟨F2, N2, ic, id, sh⟩ := S
            clear NC
            simp only [List.drop_succ_cons, List.drop_zero]
            refine cutF 3 (LawT (ghostOf s1.heap [(41, 37), (34, 30)]) s1.heap.objs.size s1) ?T0 ?T1
            · intro QQ
              simp only [List.take_succ_cons, List.take_zero]
              have hlen := sh.len
              have hns := hI.length
              have hcl := ic.length
              have hdl := id.length
              have hn63 : ns.length < 64 := by omega
              k_with "ints" => assumption
              k_with "len" => omega
              k_steps
              obtain ⟨wd, ew, hw1, hw2, hR⟩ := wide_is sh (by assumption) (by assumption) (List.drop 6 ns).sum
              refine Stop.off ?_
              k_dflt (refine' tops_use (lt := s1.heap.objs.size + 1) (ld := ld) (dv := dv) (ed := ed) ?wB ?wF ?wX ?wT ?wk ?wG ?wH ?wN ?wc ?wd ?wt ?wa ?wb (Nat.lt_succ_of_lt lz.1) (Nat.lt_succ_of_lt lz.2) ic sh ew hw1 hw2 hR ?wr ?wu ?_; (case wB => k_asm); (case wF => k_asm); (case wX => k_asm); (case wT => k_asm); (case wk => exact rfl); (case wG => exact codeHd); (case wH => exact cH0); (case wN => k_asm); (case wc => k_mem); (case wd => k_mem); (case wt => k_mem); (case wa => k_mem); (case wb => k_mem); (case wr => ktr_room); (case wu => ktr_units))
              rename (∀ a ∈ _, a ≤ _) => hb'
              clear hb'
              intro lt vT eT hT tkT q37 q30 FT NT iT
              (try dsimp only); (try k_fold)
              k_steps
              rename News _ _ _ _ => N8
              rename Fr _ _ _ _ => F8
              simp only [List.cons_append, List.nil_append] at N8
              k_dflt (refine' lawT_cut (ld := ld) (lt := lt) (dv := dv) (vT := vT) F8 N8 ?yd ?y1 ?ye ?y2 ?yl ?ym ?yt ?y7 ?y0 id iT sh.ans; (case yd => assumption); (case y1 => with_unfolding_all rfl); (case ye => omega); (case y2 => with_unfolding_all rfl); (case yl => k_mem); (case ym => k_mem); (case yt => k_mem); (case y7 => k_mem); (case y0 => k_mem))
            · intro s' hT
              obtain ⟨h3, tk3, u3, ld, ed, lt, eT, tdg, oT3, q37, q30, dv, vT, ds, rt, rfl, ST⟩ := hT
              obtain ⟨FT, NT, dT3, id, iT, an⟩ := ST
              clear N2
              simp only [List.drop_succ_cons, List.drop_zero]
              have hdl := id.length
              have hd6 := an.n6
              refine cutF 2 (LawR (ghostOf s1.heap [(41, 37), (34, 30)]) s1.heap.objs.size s1) ?R0 ?R1
              · intro QQ
                simp only [List.take_succ_cons, List.take_zero]
                have hM := mark
                k_with "ints" => assumption
                k_with "len" => omega
                k_steps
                refine Stop.off ?_
                k_dflt (refine LCt.CompSrcT.ledger (by rfl) (by k_asm) (by k_asm) (by k_mem) ?szA ?_)
                case szA => rw [PySem.sizeLine_eq]; simp only [List.size_toArray]; omega
                intro gA
                k_dflt (refine' kci_list negG id (fun k' t' I' oI' C' oC' D' m' ys' l' h' tk' E' hk' hI' hC' hx' F' N' off' ne' hMark' => ?turnA) ?finA neg_grows)
                case turnA =>
                  clear hk'
                  k_steps
                  · exact LCg.CompEnd.intro F' N' _ (fun q hq => hq) off' (.inr ⟨_, .tail _ (.head _), rfl, _, rfl⟩) (kci_el (if_pos (by assumption)) rfl rfl)
                  · exact LCg.CompEnd.intro F' N' _ (fun q hq => hq) off' (.inr ⟨_, .tail _ (.head _), rfl, _, rfl⟩) (kci_no (if_neg (by assumption)) rfl)
                case finA =>
                  show ∀ _, _
                  intro ysA iA jA
                  obtain ⟨ra, era⟩ : ∃ ra, ds.foldl negG [] = ra := ⟨_, rfl⟩
                  have iA' : IntsAre ysA ra := era ▸ iA
                  have lA := neg_len era
                  have lA2 := rights_le ds
                  clear iA jA era
                  k_steps
                  refine Stop.off ?_
                  k_dflt (refine LCt.CompSrcT.ledger (by rfl) (by k_asm) (by k_asm) (by k_mem) ?szB ?_)
                  case szB => rw [PySem.sizeLine_eq]; simp only [List.size_toArray]; omega
                  intro gB
                  k_dflt (refine' kci_list posG id (fun k' t' I' oI' C' oC' D' m' ys' l' h' tk' E' hk' hI' hC' hx' F' N' off' ne' hMark' => ?turnB) ?finB pos_grows)
                  case turnB =>
                    clear hk'
                    k_steps
                    · exact LCg.CompEnd.intro F' N' _ (fun q hq => hq) off' (.inr ⟨_, .tail _ (.tail _ (.head _)), rfl, _, rfl⟩) (kci_el (if_pos (by assumption)) rfl rfl)
                    · exact LCg.CompEnd.intro F' N' _ (fun q hq => hq) off' (.inr ⟨_, .tail _ (.tail _ (.head _)), rfl, _, rfl⟩) (kci_no (if_neg (by assumption)) rfl)
                  case finB =>
                    show ∀ _, _
                    intro ysB iB jB
                    obtain ⟨rb, erb⟩ : ∃ rb, ds.foldl posG [] = rb := ⟨_, rfl⟩
                    have iB' : IntsAre ysB rb := erb ▸ iB
                    have lB := pos_len erb
                    have lB2 := lefts_le ds
                    clear iB jB erb
                    k_steps
                    k_dflt (refine' lawR_cut (lt := lt) (vT := vT) ?xF ?xN dT3 ?x1 ?x2 ?x3 lA lB ?xl ?xt ?x7 ?x0 iT an; (case xF => k_asm); (case xN => k_asm); (case x1 => with_unfolding_all rfl); (case x2 => with_unfolding_all rfl); (case x3 => with_unfolding_all rfl); (case xl => k_mem); (case xt => k_mem); (case x7 => k_mem); (case x0 => k_mem))
              · intro s' hR
                obtain ⟨h4, tk4, u4, lt, eT, tdg, tr, tl, oT4, q37, q30, vT, ds, rt, rfl, SR⟩ := hR
                obtain ⟨FR, NR, dT4, iT, an⟩ := SR
                clear NT
                simp only [List.drop_succ_cons, List.drop_zero]
                obtain ⟨d4, d6, r1, r7, alo, ahi⟩ := an
                have rt0 : rt ≠ [] := fun e => by rw [e] at r1; cases r1
                have hM := mark
                k_with "ints" => assumption
                k_with "len" => omega
                k_steps
                refine Stop.off ?_
                k_dflt (refine' eqnil_op (ds := rt) ?eN ?em iT ?eb ?eu ?_; (case eN => k_asm); (case em => k_mem); (case eb => k_mem); (case eu => ktr_units))
                rw [decide_eq_false rt0]
                have hG := gate 1
                k_steps
                (rename Gate 1 => hM9); clear hM9
                refine Stop.off ?_
                have lT : vT.length = rt.length := iT.length
                k_steps
                refine Stop.off ?_
                with_reducible refine le_int ?_
                try dsimp only
                refine wpAny_truthy_bool ?_
                by_cases hle : (rt.length : Int) ≤ (ds.length : Int)
                · rw [decide_eq_true hle, if_pos rfl]
                  obtain ⟨q1, q2⟩ := alo (by omega)
                  clear alo ahi hle
                  have hG2 := gate 2
                  k_steps
                  refine hq0 _ _ ?_
                  k_steps
                · rw [decide_eq_false hle, if_neg Bool.false_ne_true]
                  obtain ⟨q1, q2, q3⟩ := ahi (by omega)
                  clear alo ahi hle
                  k_steps
                  refine Stop.off ?_
                  k_dflt (refine LCt.CompSrcT.range (n := ds.length) (by rfl) (by k_asm) (by k_asm) (by assumption) ?smC ?nC ?szC ?_)
                  case smC => exact small_one (by omega) (by omega) (by omega) (by omega)
                  case nC => rw [rangeSize_nat]; omega
                  case szC => rw [PySem.sizeLine_eq]; omega
                  intro gC
                  k_dflt (refine' kci_range (chgG rt) (fun k' t' I' oI' C' oC' D' m' ys' l' h' tk' E' hlo' hhi' hI' hC' hx' F' N' off' ne' hMark' => ?turnC) ?finC (chg_grows rt))
                  case turnC =>
                    have hG3 := gate 3
                    k_steps
                    (rename Gate 3 => hM9); clear hM9
                    refine Stop.off ?_
                    refine wpAny_truthy_bool ?_
                    (try dsimp only)
                    split
                    · rename_i hq
                      k_steps
                      exact LCg.CompEnd.intro F' N' _ (fun q hq => hq) off' trivial (kci_el (if_pos (bne_iff_ne.mp hq)) rfl rfl)
                    · rename_i hq
                      exact LCg.CompEnd.intro F' N' _ (fun q hq => hq) off' trivial (kci_no (if_neg fun e => hq (bne_iff_ne.mpr e)) rfl)
                  case finC =>
                    show ∀ _, _
                    intro ysC iC jC
                    obtain ⟨rc, erc⟩ : ∃ rc, (rangeKs 0 ds.length).foldl (chgG rt) [] = rc := ⟨_, rfl⟩
                    have iC' : IntsAre ysC rc := erc ▸ iC
                    have lC : rc.length = chg rt := by rw [← erc, chg_law q1]
                    clear iC jC erc
                    have hG2 := gate 2
                    k_steps
                    refine hq0 _ _ ?_
                    k_steps)
end
end Mine
end

theorem PySem.Challenge.cw_wn0139_01_holds : PySem.Challenge.rw_wn0139_01.Holds := by
  exact Mine.law_holds
