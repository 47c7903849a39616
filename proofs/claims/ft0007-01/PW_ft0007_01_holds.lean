import PyProof.Rows.All
import Wide.All
import OpenK.AllK
import Wide.FinOn
import PySem.Challenge.RW_ft0007_01
open PySem PySem.W PyProof.Rows
set_option Elab.async false
set_option maxRecDepth 100000
set_option maxHeartbeats 8000000
namespace Mine
open_top hd for PySem.Challenge.rw_ft0007_01
theorem top_off : True := by
  w_top off
  trivial
section
abbrev PR : Program := PySem.Challenge.rw_ft0007_01.row.prog
abbrev TopM (mean : ExcName → Option Value) (mg mb : Str → Option Value) (h : Heap) : Prop :=
  Top hd.view_39 (looseW hd.view_39 [Str.ofString "RomanNumeral", Str.ofString "_ROMAN_NUMERAL_PREFIXES"]) mean mg mb h
abbrev RetV (news : List (Addr × Obj)) (R : Tok → Value) (h₀ : Heap) (L : Addr) (m : Str → Option Value) (s : Shared) (Q : Value → Shared → Prop) : Prop :=
  ∀ (t : Tok) (h' : Heap) (tk' : Nat), Fr h₀ L h' m → News h₀ L h' news → Q (R t) { s with heap := h', toks := tk' }
abbrev Gl (w : World) (mean : ExcName → Option Value) (mg mb : Str → Option Value) (D : Nat) (f : Addr) (news : List (Addr × Obj)) (pre : Prop) (vs : List Value)
    (Ret : Heap → Addr → (Str → Option Value) → Shared → (Value → Shared → Prop) → Prop) : Prop :=
  ∀ (dp un : Nat) (gd : Option (List Code)) (cn : Str) (cs : Scope) (a : Addr) (ccd : Value) (cl : List (Str × Addr)) (outer : List Env) (A₀ : Around) (base h₀ : Heap) (L : Addr) (m : Str → Option Value) (s : Shared) (Q E : Value → Shared → Prop),
    Below A₀ base outer h₀ → Fr h₀ L s.heap m → (hd.heap_39 w.params).In h₀ → News h₀ L s.heap news → TopM mean mg mb h₀ → cs.kind = .function →
    pre → dp + D < recursionLimit → un + 8 * D < cLine → Ret h₀ L m s Q →
      wpAny (model PySem.Challenge.rw_ft0007_01.row.prog w) (ktrTop dp un gd cn cs L a ccd cl outer) (call (.ref f) vs) Q E s
def Hold (P : Prop) : Prop := P
theorem unrPost_hold {h₀ : Heap} {L I : Addr} {it : Obj} {rest : (Str → Option Value) → List (Addr × Obj) → Prop} {s₁ s₂ : Shared} {Q : Flow → Shared → Prop}
    (h : Hold (UnrEnd h₀ L s₁ I it rest s₂)) : UnrPost h₀ L s₁ I it rest Q .next s₂ := h
theorem fr2 {h₀ h : Heap} {L : Addr} {m : Str → Option Value} {n1 n2 : Str} {v1 v2 : Value} (F : Fr h₀ L h m) (e1 : m n1 = some v1) (e2 : m n2 = some v2) :
    Fr h₀ L h (fun y => if y = n1 then some v1 else if y = n2 then some v2 else m y) := by
  have e : (fun y => if y = n1 then some v1 else if y = n2 then some v2 else m y) = m := by
    funext y
    split
    · rename_i h; rw [h, e1]
    split
    · rename_i h; rw [h, e2]
    rfl
  rw [e]; exact F
theorem news_sub {h₀ h : Heap} {L : Addr} {a b : List (Addr × Obj)} (N : News h₀ L h a) (hs : ∀ p ∈ b, p ∈ a) : News h₀ L h b := fun p hp => N p (hs p hp)
theorem news_drop2 {h₀ h : Heap} {L : Addr} {p q : Addr × Obj} {r : List (Addr × Obj)} (N : News h₀ L h (p :: q :: r)) : News h₀ L h (p :: r) :=
  news_sub N fun x hx => by
    rcases List.mem_cons.mp hx with rfl | hx
    · exact .head _
    · exact .tail _ (.tail _ hx)
abbrev GlC (w : World) (mean : ExcName → Option Value) (mg mb : Str → Option Value) (D : Nat) (f : Addr) (news : List (Addr × Obj)) (pre : Prop) (vs : List Value)
    (Ret : Heap → Addr → (Str → Option Value) → Shared → (Value → Shared → Prop) → Prop) : Prop :=
  ∀ (dp un : Nat) (gd : Option (List Code)) (cn : Str) (cs : Scope) (a : Addr) (ccd : Value) (cl : List (Str × Addr)) (outer : List Env) (A₀ : Around) (base h₀ : Heap) (L : Addr) (m : Str → Option Value) (s : Shared) (Q E : Value → Shared → Prop),
    Below A₀ base outer h₀ → Fr h₀ L s.heap m → (hd.heap_39 w.params).In h₀ → News h₀ L s.heap news → TopM mean mg mb h₀ → cs.kind = .function →
    pre → dp + D < recursionLimit → un + 8 * D < cLine → Ret h₀ L m s Q →
      codeAny (model PySem.Challenge.rw_ft0007_01.row.prog w) (ktrTop dp un gd cn cs L a ccd cl outer) (.call (.ref f) ⟨vs, []⟩) (fun r s' => match r with | .ok (.ret v) => Q v s' | .ok _ => False | .error e => E e s') s
end
section
theorem unrEndW_one {h₀ : Heap} {L I : Addr} {o : Obj} {rest : (Str → Option Value) → List (Addr × Obj) → Prop} {s₁ : Shared} {h' : Heap} {tk : Nat} {m' : Str → Option Value} {news' : List (Addr × Obj)}
    (F : Fr h₀ L h' m') (N : News h₀ L h' ((I, o) :: news')) (off : ∀ p ∈ news', p.1 < I) (r : rest m' news') :
    UnrEndW h₀ L s₁ [(I, o)] rest { s₁ with heap := h', toks := tk } :=
  ⟨h', tk, m', news', rfl, F, N, fun p hp q hq e => by
    rw [List.mem_singleton.mp hq] at e
    exact absurd (off p hp) (by rw [e]; exact Nat.lt_irrefl _), r⟩

theorem toks_gen {α : Type} {M : Model} {A : Around} {E : Value → Shared → Prop} {t : Sem α} {Q : α → Shared → Prop} {hp : Heap} {g : Array GenState} {d : Drawn} {o : OsState} {k : Nat}
    (hk : 1 ≤ k) (h : ∀ tk : Nat, 1 ≤ tk → wpAny M A t Q E ⟨hp, g, d, tk, o⟩) : wpAny M A t Q E ⟨hp, g, d, k, o⟩ := h k hk

theorem replace_len (x y z : Str) : (Txt.replace x y z).length ≤ x.length + (x.length + 1) * z.length := by
  unfold Txt.replace
  split
  · omega
  · have h1 := StrLaws.occ_length_le x y 0 x.length (x.length + 1)
    have hy : (Builtin.Str.glued y (Builtin.Str.partsBetween x (Builtin.Str.occurrences x y 0 x.length (x.length + 1)) y.length)).length = x.length := by rw [StrLaws.glued_between_self]
    rw [size_glued, length_partsBetween, Nat.add_sub_cancel] at hy
    rw [size_glued, length_partsBetween, Nat.add_sub_cancel]
    have h2 : (Builtin.Str.occurrences x y 0 x.length (x.length + 1)).length * z.length ≤ (x.length + 1) * z.length := Nat.mul_le_mul_right _ h1
    omega

section
variable {prog : Program} {w : World} {A : Around} {E : Value → Shared → Prop} {s : Shared} {x y z : Str} {t u v : Tok} {Q : Value → Shared → Prop}
theorem repl_step (Z B : Nat) (hx : x.length ≤ B) (hu : u ≠ 0) (hv : v ≠ 0) (huv : u ≠ v) (hyz : (y == z) = false) (hz : z.length ≤ Z) (hB : B + (B + 1) * Z ≤ 16777216)
    (hq : ∀ t' k, (Txt.replace x y z).length ≤ B + (B + 1) * Z → Q (.str (Txt.replace x y z) t') { s with toks := k }) :
    wpAny (model prog w) A (call (.builtin "str.replace") [.str x t, .str y u, .str z v]) Q E s := by
  have h1 : (x.length + 1) * z.length ≤ (x.length + 1) * Z := Nat.mul_le_mul_left _ hz
  have h3 : (x.length + 1) * Z ≤ (B + 1) * Z := Nat.mul_le_mul_right _ (by omega)
  have h2 := replace_len x y z
  exact SC.replace hu hv huv hyz (by omega) fun t' k => hq t' k (by omega)
theorem count_step (hq : ∀ c : Int, c = Txt.count x y → 0 ≤ c → c ≤ (x.length : Int) + 1 → Q (.int c s.toks) { s with toks := s.toks + 1 }) :
    wpAny (model prog w) A (call (.builtin "str.count") [.str x t, .str y u]) Q E s := by
  have h1 := StrLaws.occ_length_le x y 0 x.length (x.length + 1)
  refine SC.count (hq _ rfl ?_ ?_)
  · unfold Txt.count; omega
  · unfold Txt.count; omega
theorem mod_step {a m : Int} (hm : 0 < m) (hq : ∀ r : Int, r = a.fmod m → 0 ≤ r → r < m → Q (.int r s.toks) { s with toks := s.toks + 1 }) :
    wpAny (model prog w) A (binaryOp .Mod (.int a t) (.int m u)) Q E s :=
  mod_int (by omega) (hq _ rfl (Int.fmod_nonneg_of_pos _ hm) (Int.fmod_lt_of_pos _ hm))
theorem div_step {a m : Int} (hm : 0 < m) (hm2 : m < 1000000) (ha : 0 ≤ a) (hb : a ≤ 100000) (hq : ∀ q : Int, q = a.fdiv m → 0 ≤ q → q ≤ a → Q (.int q s.toks) { s with toks := s.toks + 1 }) :
    wpAny (model prog w) A (binaryOp .FloorDiv (.int a t) (.int m u)) Q E s := by
  refine floordiv_int (by omega) (hq _ rfl ?_ ?_) (Or.inl (PyProof.noPylong_small (by omega)))
  · rw [Int.fdiv_eq_ediv_of_nonneg _ (by omega)]; exact Int.ediv_nonneg ha (by omega)
  · rw [Int.fdiv_eq_ediv_of_nonneg _ (by omega)]; exact Int.ediv_le_self _ ha
theorem foldl_app_size {α : Type} (a : Array α) : ∀ (k : Nat) (acc : Array α), ((List.replicate k a).foldl (· ++ ·) acc).size = acc.size + k * a.size
  | 0, acc => by simp
  | k + 1, acc => by
    rw [List.replicate_succ, List.foldl_cons, foldl_app_size a k, Array.size_append, Nat.add_mul]; omega
theorem mul_len {n : Int} (N : Nat) (hx : x.length ≤ 1) (hn : n ≤ (N : Int)) : (Txt.mul x n).length ≤ N := by
  unfold Txt.mul
  split
  · exact Nat.zero_le _
  split
  · omega
  · show ((List.replicate n.toNat x.cps).foldl (· ++ ·) #[]).size ≤ N
    rw [foldl_app_size]
    have h1 : x.cps.size ≤ 1 := hx
    have h2 : n.toNat * x.cps.size ≤ n.toNat * 1 := Nat.mul_le_mul_left _ h1
    have h3 : (#[] : Array Nat).size = 0 := rfl
    omega
theorem mul_step {n : Int} (N : Nat) (hx : x.length ≤ 1) (h0 : 0 ≤ n) (hn : n ≤ (N : Int)) (hN : N ≤ 100000)
    (hq : ∀ t' k, (Txt.mul x n).length ≤ N → Q (.str (Txt.mul x n) t') { s with toks := k }) : wpAny (model prog w) A (binaryOp .Mult (.str x t) (.int n u)) Q E s :=
  SB.mul (mulOk_of 1 N hx hn (by omega) (by omega) (by omega)) fun t' k => hq t' k (mul_len N hx hn)
theorem add_step {a b : Nat} (hx : x.length ≤ a) (hy : y.length ≤ b) (hab : a + b ≤ 1000000)
    (hq : ∀ t' k, (x ++ y).length ≤ a + b → Q (.str (x ++ y) t') { s with toks := k }) : wpAny (model prog w) A (binaryOp .Add (.str x t) (.str y u)) Q E s :=
  SBL.add (fun t' k h => hq t' k (by omega)) (by rw [sizeLine_eq]; omega)
end
theorem execs_cons_toks {M : Model} {A : Around} {E : Value → Shared → Prop} {env : Env} {st : Stmt} {rest : List Stmt} {Q : Flow → Shared → Prop} {hp : Heap} {g : Array GenState} {d : Drawn} {o : OsState} {k : Nat}
    (hk : 1 ≤ k) (h : ∀ tk : Nat, 1 ≤ tk → wpAny M A (exec st env) (fun f s' => 1 ≤ s'.toks → match f with | .next => wpAny M A (execs rest env) Q E s' | f => Q f s') E ⟨hp, g, d, tk, o⟩) :
    wpAny M A (execs (st :: rest) env) Q E ⟨hp, g, d, k, o⟩ := by
  refine wpAny_execs_cons (wpAny_mono (wpAny_toks_of (n := 1) (s := ⟨hp, g, d, k, o⟩) hk (h k hk)) (fun f s' x => ?_) (fun _ _ x => x.2))
  have := x.2 x.1
  cases f <;> exact this
theorem len_empty : PySem.Str.length (PySem.Str.ofString "") ≤ 0 := by decide +kernel
theorem getItem_made {prog : Program} {w : World} {A : Around} {E : Value → Shared → Prop} {s : Shared} {h₀ : Heap} {L d : Addr} {news : List (Addr × Obj)} {o : Obj} {kvs : List (Str × Value)} {k : Str} {t : Tok} {v : Value} {Q : Value → Shared → Prop}
    (N : News h₀ L s.heap news) (hp : (d, o) ∈ news) (hd : o.IsDictOf (PySem.strKind prog w) kvs) (hl : valueAt kvs k = some v) (h : Q v { s with toks := s.toks + 1 }) :
    wpAny (model prog w) A (getItem (.ref d) (.str k t)) Q E s := wpAny_getItem_of (strKind_is prog w k t) (kda_dict N hp hd).mapOf hl h
end
section
section
open PySem.Calls PyProof.V PySem.Spec
variable {prog : Program} {w : World} {A : Around} {E : Value → Shared → Prop} {s : Shared} {env : Env} {h₀ : Heap} {target : Expr} {body : List Stmt} {Q : Flow → Shared → Prop} {K : Frag}
theorem iter_listK {ax : Addr} {lo : Obj} {vs : List Value} {n : Nat} {m₀ : Str → Option Value} {news : List (Addr × Obj)}
    (hh : A.handled = none) (F : Fr h₀ env.locals s.heap m₀) (N : News h₀ env.locals s.heap news) (X₀ : K.In h₀) (hk : K.lookup ax = some lo) (hc : lo.cls = .type "list") (hd : lo.data = .seq vs.toArray n)
    (rest₀ : ∀ I : Addr, (∀ p ∈ news, p.1 < I) → ItemsRest prog w A E h₀ env target body Q s [(I, "list_iterator")] [] (vs.map .val) m₀ news) :
    wpAny (model prog w) A (pyIter (.ref ax)) (fun it s₂ => TurnsAt prog w A h₀ env target body Q E it s₂) E s := by
  have hg : h₀.get? ax = some lo := X₀ _ _ hk
  have hax : s.heap.get? ax = some lo := F.keep _ _ hg
  have hl : s.heap.IsList ax vs.toArray := ⟨lo, hax, hc, n, hd⟩
  have hlt : ax < s.heap.objs.size := Heap.lt_size hax
  have hne : ax ≠ s.heap.objs.size := Nat.ne_of_lt hlt
  refine wpAny_pyIter_list hl ?_
  refine ktg_core (tk0 := s.toks) (keep := []) (KTurns.ofWalks (Walks.list hh s.heap.objs.size ax hne vs.toArray) fun i v s Q E st q => letGo_listiter st.1 q) (by simp) (fun i v h hp => ⟨.val v, ?_, rfl⟩) (fun i h st => ?_) (fun b hb => ?_) (fun b hb => by simpa using hb) (fun b hb => ?_) ?_ (fun p hp hI => ?_) ?_ (F.push _) (fun p hp => ⟨Heap.get?_push_of_some _ (N p hp).1, (N p hp).2⟩) trivial (rest₀ _ fun p hp => Heap.lt_size (N p hp).1)
  · have hp' : vs.toArray[i]? = some v := hp
    simpa using hp'
  · obtain ⟨it, hit, hic, _⟩ := st.1
    exact ⟨[(s.heap.objs.size, it)], ⟨⟨rfl, hic⟩, trivial⟩, fun p hp => by rw [List.mem_singleton.mp hp]; exact hit⟩
  · have hb' : b = s.heap.objs.size := by simpa using hb
    rw [hb']
    exact ⟨List.mem_cons_self .., next_is_new F⟩
  · have hb' : b = s.heap.objs.size ∨ b = ax := by simpa using hb
    rcases hb' with e | e
    · exact .inl (by simp [e])
    · exact .inr (.inr ⟨lo, by rw [e]; exact hg⟩)
  · intro hI
    rcases List.mem_cons.mp hI with e | hI
    · exact absurd F.ns.lt (e ▸ Nat.lt_irrefl _)
    · have e : env.locals = ax := List.mem_singleton.mp hI
      exact absurd (Heap.lt_size hg) (Nat.not_lt.mpr (e ▸ F.above))
  · exact absurd (Heap.lt_size (N p hp).1) ((List.mem_singleton.mp hI) ▸ Nat.lt_irrefl _)
  · exact ⟨⟨_, Heap.get?_push_size _ rfl, rfl, rfl⟩, hl.at fun o e => Heap.get?_push_of_some _ e⟩

theorem itemsRest_ind {I : Addr} {cl : String} (P : List Itm → (Str → Option Value) → List (Addr × Obj) → Prop)
    (hnil : ∀ m led, P [] m led → ItemsRest prog w A E h₀ env target body Q s [(I, cl)] [] [] m led)
    (hcons : ∀ c r m led, P (c :: r) m led → (∀ m' led', P r m' led' → ItemsRest prog w A E h₀ env target body Q s [(I, cl)] [] r m' led') → ItemsRest prog w A E h₀ env target body Q s [(I, cl)] [] (c :: r) m led) :
    ∀ l m led, P l m led → ItemsRest prog w A E h₀ env target body Q s [(I, cl)] [] l m led
  | [], m, led, h => hnil m led h
  | c :: r, m, led, h => hcons c r m led h fun m' led' h' => itemsRest_ind P hnil hcons r m' led' h'
end
theorem fr1 {h₀ h : Heap} {L : Addr} {m : Str → Option Value} {n1 : Str} {v1 : Value} (F : Fr h₀ L h m) (e1 : m n1 = some v1) :
    Fr h₀ L h (fun y => if y = n1 then some v1 else m y) := by
  have e : (fun y => if y = n1 then some v1 else m y) = m := by
    funext y
    split
    · rename_i h; rw [h, e1]
    rfl
  rw [e]; exact F
theorem mem_of {α : Type} {a : α} {l : List α} (h : a ∈ l) : List.Mem a l := h
theorem hold_of {P : Prop} (h : Hold P) : P := h
section
variable {prog : Program} {w : World} {A : Around} {E : Value → Shared → Prop} {env : Env} {test : PySem.Expr} {body orelse : List Stmt} {Q : Flow → Shared → Prop}
theorem whl_ind (P : Nat → Shared → Prop)
    (step : ∀ k s, P k s → (∀ j s', j < k → P j s' → WhlRest prog w A E env test body orelse Q 0 s') → WhlRest prog w A E env test body orelse Q (0 + 1) s) :
    ∀ k s, P k s → WhlRest prog w A E env test body orelse Q 0 s := by
  have all : ∀ n k s, k < n → P k s → WhlRest prog w A E env test body orelse Q 0 s := by
    intro n
    induction n with
    | zero => intro k s h; exact absurd h (Nat.not_lt_zero _)
    | succ n ih => exact fun k s h hP => step k s hP fun j s' hj hP' => ih j s' (Nat.lt_of_lt_of_le hj (Nat.le_of_lt_succ h)) hP'
  exact fun k s => all _ k s (Nat.lt_succ_self _)
theorem whlPost_hold {k : Nat} {s : Shared} (h : Hold (WhlRest prog w A E env test body orelse Q k s)) : WhlPost prog w A E env test body orelse Q k .next s := h
theorem whl_start_hold {s : Shared} {pos : Pos} (h : Hold (WhlRest prog w A E env test body orelse Q 0 s)) : wpAny (model prog w) A (exec (.While test body orelse pos) env) Q E s := whl_start 0 h
end
theorem whlIf_split {b : Bool} {T F : Prop} (ht : b = true → T) (hf : b = false → F) : WhlIf b T F := by
  cases b
  · exact WhlIf.no rfl (hf rfl)
  · exact WhlIf.yes rfl (ht rfl)
theorem unrPostW_hold {h₀ : Heap} {L : Addr} {its : List (Addr × Obj)} {rest : (Str → Option Value) → List (Addr × Obj) → Prop} {s₁ s₂ : Shared} {Q : Flow → Shared → Prop}
    (h : Hold (UnrEndW h₀ L s₁ its rest s₂)) : UnrPostW h₀ L s₁ its rest Q .next s₂ := h
theorem whl_ind3 {prog : Program} {w : World} {A : Around} {E : Value → Shared → Prop} {env : Env} {test : PySem.Expr} {body orelse : List Stmt} {Q : Flow → Shared → Prop} {h₀ : Heap} {L : Addr} {hp : Heap} {g : Array GenState} {d : Drawn} {o : OsState} {tk : Nat} {m : Str → Option Value} {led : List (Addr × Obj)}
    (F : Fr h₀ L hp m) (N : News h₀ L hp led) (P : Nat → (Str → Option Value) → List (Addr × Obj) → Prop) (k : Nat) (h0 : P k m led)
    (step : ∀ k m led h tk, P k m led → Fr h₀ L h m → News h₀ L h led → (∀ j m' led' h' tk', j < k → P j m' led' → Fr h₀ L h' m' → News h₀ L h' led' → WhlRest prog w A E env test body orelse Q 0 ⟨h', g, d, tk', o⟩) →
      WhlRest prog w A E env test body orelse Q (0 + 1) ⟨h, g, d, tk, o⟩) : WhlRest prog w A E env test body orelse Q 0 ⟨hp, g, d, tk, o⟩ := by
  refine whl_ind (fun j s' => ∃ h tk m led, s' = ⟨h, g, d, tk, o⟩ ∧ P j m led ∧ Fr h₀ L h m ∧ News h₀ L h led) ?_ k _ ⟨hp, tk, m, led, rfl, h0, F, N⟩
  rintro k s' ⟨h, tk, m, led, rfl, hP, hF, hN⟩ ih
  exact step k m led h tk hP hF hN fun j m' led' h' tk' hj hP' hF' hN' => ih j _ hj ⟨h', tk', m', led', rfl, hP', hF', hN'⟩
theorem append_own {prog : Program} {w : World} {A : Around} {E : Value → Shared → Prop} {s : Shared} {h₀ : Heap} {L I o : Addr} {m : Str → Option Value} {it : Obj} {xs : List Value} {ep : Nat} {news : List (Addr × Obj)} {x : Value} {Q : Value → Shared → Prop}
    (F : Fr h₀ L s.heap m) (N : News h₀ L s.heap ((I, it) :: (o, W.listOf xs.toArray ep) :: news)) (hIo : o < I) (hlo : ∀ p ∈ news, p.1 < o) (hsz : xs.length ≤ sizeLine)
    (h : ∀ h', Fr h₀ L h' m → News h₀ L h' ((I, it) :: (o, W.listOf (xs ++ [x]).toArray (ep + 1)) :: news) → Q .none { s with heap := h' }) :
    wpAny (model prog w) A (call (.builtin "list.append") [.ref o, x]) Q E s := by
  have e : xs.toArray.push x = (xs ++ [x]).toArray := by simp
  refine append_K F N (Upd.tail (Nat.ne_of_gt hIo) (Upd.head fun p hp => Nat.ne_of_lt (hlo p hp))) (fun h' F' N' => ?_) (by rw [List.size_toArray]; exact hsz)
  rw [e] at N'
  exact h h' F' N'
theorem div_step_nat {k v : Int} (hv : 0 < v) (hk : v ≤ k) : (k / v).toNat = ((k - v) / v).toNat + 1 := by
  have e : k / v = (k - v) / v + 1 := by
    have := Int.add_mul_ediv_right (k - v) 1 (c := v) (by omega)
    rw [← this]; congr 1; omega
  have h0 : 0 ≤ (k - v) / v := Int.ediv_nonneg (by omega) (by omega)
  rw [e]; omega
theorem ne_all {d : Addr} {l : List (Addr × Obj)} (h : ∀ p ∈ l, p.1 < d) : ∀ p ∈ l, p.1 ≠ d := fun p hp => Nat.ne_of_lt (h p hp)
theorem hold_mk {P : Prop} (h : P) : Hold P := h
end
section
def PreObj (x dx : Addr) (hs : Int) (kt nt : Tok) (ep : Nat) (n : Int) (news : List (Addr × Obj)) : Prop :=
  (x, instObj 95 dx) ∈ news ∧ (dx, dictOf [⟨hs, .str (Str.ofString "_value") kt, .int n nt⟩] ep) ∈ news ∧ 1 ≤ n ∧ n ≤ 4999
structure It where
  a : Addr
  v : Int
  tv : Tok
  nm : Str
  tn : Tok
  lo : Str
  tl : Tok
def It.Good (w : World) (i : It) : Prop :=
  (hd.heap_39 w.params).lookup i.a = some ⟨.type "tuple", none, .seq #[.int i.v i.tv, .str i.nm i.tn, .str i.lo i.tl] 0, #[]⟩ ∧ 0 < i.v ∧ i.v ≤ 1000 ∧ i.nm.length ≤ 2 ∧ i.lo.length ≤ 2
def upS : List (Int × Str) → Int → List Str → List Str
  | [], _, xs => xs
  | i :: r, n, xs => upS r (n % i.1) (xs ++ List.replicate (n / i.1).toNat i.2)
def tabU : List (Int × Str) := [(1000, Str.ofString "M"), (900, Str.ofString "CM"), (500, Str.ofString "D"), (400, Str.ofString "CD"), (100, Str.ofString "C"), (90, Str.ofString "XC"), (50, Str.ofString "L"), (40, Str.ofString "XL"), (10, Str.ofString "X"), (9, Str.ofString "IX"), (5, Str.ofString "V"), (4, Str.ofString "IV"), (1, Str.ofString "I")]
def tabL : List (Int × Str) := [(1000, Str.ofString "m"), (900, Str.ofString "cm"), (500, Str.ofString "d"), (400, Str.ofString "cd"), (100, Str.ofString "c"), (90, Str.ofString "xc"), (50, Str.ofString "l"), (40, Str.ofString "xl"), (10, Str.ofString "x"), (9, Str.ofString "ix"), (5, Str.ofString "v"), (4, Str.ofString "iv"), (1, Str.ofString "i")]
def tabI : List It := [⟨100, 1000, 321, Str.ofString "M", 322, Str.ofString "m", 323⟩,
  ⟨101, 900, 324, Str.ofString "CM", 325, Str.ofString "cm", 326⟩,
  ⟨102, 500, 327, Str.ofString "D", 328, Str.ofString "d", 329⟩,
  ⟨103, 400, 330, Str.ofString "CD", 331, Str.ofString "cd", 332⟩,
  ⟨104, 100, 333, Str.ofString "C", 334, Str.ofString "c", 335⟩,
  ⟨105, 90, 336, Str.ofString "XC", 337, Str.ofString "xc", 338⟩,
  ⟨106, 50, 339, Str.ofString "L", 340, Str.ofString "l", 341⟩,
  ⟨107, 40, 342, Str.ofString "XL", 343, Str.ofString "xl", 344⟩,
  ⟨108, 10, 345, Str.ofString "X", 346, Str.ofString "x", 347⟩,
  ⟨109, 9, 348, Str.ofString "IX", 349, Str.ofString "ix", 350⟩,
  ⟨110, 5, 351, Str.ofString "V", 352, Str.ofString "v", 353⟩,
  ⟨111, 4, 354, Str.ofString "IV", 355, Str.ofString "iv", 356⟩,
  ⟨112, 1, 357, Str.ofString "I", 358, Str.ofString "i", 359⟩]
theorem tabI_good (w : World) : ∀ i ∈ tabI, i.Good w := by
  intro i hi
  simp only [tabI, List.mem_cons, List.not_mem_nil, or_false] at hi
  rcases hi with rfl | rfl | rfl | rfl | rfl | rfl | rfl | rfl | rfl | rfl | rfl | rfl | rfl <;> exact ⟨rfl, by decide, by decide, by decide +kernel, by decide +kernel⟩
def upperS (n : Int) : Str := Txt.join (Str.ofString "") (upS tabU n [])
def lowerS (n : Int) : Str := Txt.join (Str.ofString "") (upS tabL n [])
theorem strsAre_rep (y : Str) (t : Tok) : ∀ k, StrsAre (List.replicate k (.str y t)) (List.replicate k y)
  | 0 => .nil
  | k + 1 => .cons _ _ (strsAre_rep y t k)
theorem strsAre_len : ∀ {vs : List Value} {ys : List Str}, StrsAre vs ys → vs.length = ys.length
  | _, _, .nil => rfl
  | _, _, .cons _ _ h => congrArg (· + 1) (strsAre_len h)
theorem sum_le : ∀ (ys : List Str), (∀ y ∈ ys, y.length ≤ 2) → (ys.map (·.length)).sum ≤ 2 * ys.length
  | [], _ => by decide
  | y :: r, h => by
    have h1 := h y (.head _)
    have h2 := sum_le r fun z hz => h z (.tail _ hz)
    simp only [List.map_cons, List.sum_cons, List.length_cons]
    omega
theorem join_own {prog : Program} {w : World} {A : Around} {E : Value → Shared → Prop} {s : Shared} {h₀ : Heap} {L o : Addr} {xs : List Value} {ys : List Str} {ep : Nat} {news : List (Addr × Obj)} {t : Tok} {Q : Value → Shared → Prop}
    (N : News h₀ L s.heap ((o, W.listOf xs.toArray ep) :: news)) (hi : StrsAre xs ys) (h2 : ∀ y ∈ ys, y.length ≤ 2) (hz : ys.length ≤ 5000)
    (h : ∀ t' k, Q (.str (Txt.join (Str.ofString "") ys) t') { s with toks := k }) : wpAny (model prog w) A (call (.builtin "str.join") [.str (Str.ofString "") t, .ref o]) Q E s := by
  have hl : s.heap.IsList o xs.toArray := ⟨_, (N _ (.head _)).1, rfl, ep, rfl⟩
  have hs := sum_le ys h2
  exact join_listW hl (by simpa using hi) (by decide +kernel) (by omega) h
end
section
section
open PySem.Calls Builtin Builtin.Str Builtin._codecs
theorem encode_tree_ascii (x : PySem.Str) (t u : Tok) : Builtin.«str.encode» ⟨[.str x t, .str (PySem.Str.ofString "ascii") u], []⟩ = ((encodeNarrow "str.encode" asciiCodec none (.str x t) x >>= fun b => mkBytes b) >>= fun v => ret v) := by
  kernel_rfl
def asBytes (x : PySem.Str) : Array UInt8 := x.cps.map fun c => c.toUInt8
theorem fold_bytes : ∀ (l : List Nat) (acc : Array UInt8), l.foldl (fun acc y => acc ++ (asciiCodec.bytesOf y).toArray) acc = acc ++ (l.map fun c => c.toUInt8).toArray
  | [], acc => by simp
  | c :: r, acc => by
    rw [List.foldl_cons, fold_bytes r]
    simp [asciiCodec]
theorem narrow_ascii (id : String) (self : Value) (x : PySem.Str) (h1 : 1 ≤ x.length) (h2 : x.length ≤ 1000) (ha : ∀ c ∈ x.cps.toList, c < 128) :
    encodeNarrow id asciiCodec none self x = pure (asBytes x) := by
  have hb : ∀ c ∈ x.cps.toList, asciiCodec.bad c = false := fun c hc => by
    have := ha c hc
    show decide (c ≥ 128) = false
    exact decide_eq_false (by omega)
  have hf : x.cps.findIdx? asciiCodec.bad = none := by
    rw [Array.findIdx?_eq_none_iff]
    intro c hc
    exact hb c (Array.mem_toList_iff.mpr hc)
  have hsz : 0 < x.cps.size := h1
  have h0 : x.cps[0]? = some x.cps[0] := Array.getElem?_eq_getElem hsz
  have hb0 : asciiCodec.bad x.cps[0] = false := hb _ (Array.mem_toList_iff.mpr (Array.getElem_mem hsz))
  have hn : x.cps[x.cps.size]? = none := Array.getElem?_eq_none (Nat.le_refl _)
  have hfold : Array.foldl (fun acc y => acc ++ (asciiCodec.bytesOf y).toArray) #[] x.cps = asBytes x := by
    rw [← Array.foldl_toList, fold_bytes]
    simp only [asBytes]
    apply Array.ext'
    simp
  have hs1 : ¬ (asBytes x).size > sizeLine := by
    rw [sizeLine_eq]; unfold asBytes; rw [Array.size_map]; have : x.cps.size ≤ 1000 := h2; omega
  have hs0 : ¬ (#[] : Array UInt8).size > sizeLine := by rw [sizeLine_eq]; decide
  have he : x.cps.extract 0 = x.cps := by simp
  have he2 : x.cps.extract 0 x.cps.size = x.cps := by simp
  have hlen : [:x.length].size = x.cps.size := by simp [Std.Legacy.Range.size, PySem.Str.length]
  unfold encodeNarrow
  simp only [Std.Legacy.Range.forIn_eq_forIn_range', hlen]
  obtain ⟨k, hk⟩ : ∃ k, x.cps.size = k + 1 := ⟨x.cps.size - 1, by omega⟩
  have hlist : List.range' 0 x.cps.size = 0 :: List.range' 1 k := by rw [hk, List.range'_succ]
  rw [hlist, List.forIn_cons]
  simp only [hs0, if_false, h0, hb0, Bool.not_false, if_true, he, hf, Option.getD_none, he2, hfold, Nat.zero_add]
  rw [pure_bind]
  cases k with
  | zero => simp only [List.range'_zero, List.forIn_nil, pure_bind]
  | succ k =>
    simp only [List.range'_succ, List.forIn_cons]
    simp only [hs1, if_false, hn, pure_bind]
theorem encode_step {prog : Program} {w : World} {A : Around} {E : Value → Shared → Prop} {s : Shared} {x : PySem.Str} {t u : Tok} {Q : Value → Shared → Prop} (h1 : 1 ≤ x.length) (h2 : x.length ≤ 1000) (ha : ∀ c ∈ x.cps.toList, c < 128)
    (h : Q (.bytes (asBytes x) s.toks) { s with toks := s.toks + 1 }) : wpAny (model prog w) A (call (.builtin "str.encode") [.str x t, .str (PySem.Str.ofString "ascii") u]) Q E s := by
  refine call_givesAt (P := fun _ => True) (m := .bytes (asBytes x)) F.slot_str_encode (typeIs_str _ _ _) F.entry_str_encode (F.args_str_encode_2 _ _) (Gives.at (.of_eq (by rw [encode_tree_ascii, narrow_ascii _ _ _ h1 h2 ha, pure_bind]; rfl))) trivial ⟨by rw [sizeLine_eq]; unfold asBytes; rw [Array.size_map]; have : x.cps.size ≤ 1000 := h2; omega, h⟩
theorem encode_meth {M : Model} {A : Around} {E : Value → Shared → Prop} {s : Shared} {x : PySem.Str} {t : Tok} {pl : Sem Bool} {Q : Value × List Value → Shared → Prop} (h : Q (.builtin "str.encode", [.str x t]) s) :
    wpAny M A (getMethod (.str x t) (PySem.Str.ofString "encode") pl) Q E s := by
  with_reducible exact GM.of (.str x t) (typeIs_str _ _ _) F.slot_str_encode F.type_str_encode GM.noRef h
end
end
section
section
open PySem.Calls Builtin Builtin.Bytes
theorem contains_eq {id : String} {b : Array UInt8} {t u : Tok} {i : Int} (h0 : 0 ≤ i) (h1 : i < 256) : containsIn id (.bytes b t) (.int i u) = pure (b.contains i.toNat.toUInt8) := by
  unfold containsIn
  rw [show (asIndex (.int i u)).attempt = pure (.ok i) from rfl, pure_bind, KBy.buffer_eq, pure_bind]
  have e : (decide (i < 0) || decide (i ≥ 256)) = false := by simp; omega
  simp only [e, Bool.false_eq_true, if_false]
theorem gives_contains {b : Array UInt8} {t u : Tok} {i : Int} (h0 : 0 ≤ i) (h1 : i < 256) : Gives («bytes.__contains__» ⟨[.bytes b t, .int i u], []⟩) (.val (.bool (b.contains i.toNat.toUInt8))) := by
  refine .of_eq ?_
  show (containsIn "bytes.__contains__" (.bytes b t) (.int i u) >>= fun r => ret (.bool r)) = _
  rw [contains_eq h0 h1, pure_bind]
  rfl
theorem in_bytes {prog : Program} {w : World} {A : Around} {E : Value → Shared → Prop} {s : Shared} {b : Array UInt8} {t u : Tok} {i : Int} {Q : Value → Shared → Prop} (h0 : 0 ≤ i) (h1 : i < 256) (h : Q (.bool (b.contains i.toNat.toUInt8)) s) :
    wpAny (model prog w) A (compareOp .In (.int i u) (.bytes b t)) Q E s :=
  in_gives (typeIs_bytes s b t) FB.slot_bytes_contains FB.entry_bytes_contains (FB.args_bytes_contains_2 _ _) (gives_contains h0 h1) h
theorem keeps_toks {s : Shared} {k : Nat} : Keeps s { s with toks := k } := ⟨s.heap, k, rfl, fun _ _ e => e⟩
end
def roman7 : Array UInt8 := #[73, 86, 88, 76, 67, 68, 77]
end
section
section
open PySem.Calls PyProof.V PySem.Spec LSm
theorem paired_bools : ∀ {vs ys : List Value}, Paired (fun (_ y : Value) => y = .bool true) vs ys → BoolsAre ys (List.replicate ys.length true)
  | _, _, .nil => .nil
  | _, _, .cons h r => by
    subst h
    exact .cons _ (paired_bools r)
theorem comp_roman {prog : Program} {w : World} {A : Around} {E : Value → Shared → Prop} {s : Shared} {h₀ : Heap} {L : Addr} {m : Str → Option Value} {news : List (Addr × Obj)} {env : Env} {scope : Scope} {B : Array UInt8} {t : Tok} {Q : Value → Shared → Prop} {p1 p2 p3 : Pos} {k0 : Nat}
    (F : Fr h₀ L s.heap m) (N : News h₀ L s.heap news) (hh : A.handled = none) (hB : ∀ c ∈ B.toList, roman7.contains c = true) (hsz : B.size ≤ 1000) (hk : scope.kind = .function) (hl : ∀ C, (compEnv scope C env).kindOf (Str.ofString "char") = some .local)
    (h : ∀ D ys ep h' tk k, Fr h₀ L h' m → News h₀ L h' ((D, W.listOf ys ep) :: news) → BoolsAre ys.toList (List.replicate k true) → Q (.ref D) { s with heap := h', toks := tk }) :
    wpAny (model prog w) A (pyIter (.bytes B t)) (CompPost prog w A env scope (Str.ofString "char") [] (Expr.Compare (Expr.Name (Str.ofString "char") p1) [CmpOp.In] [Expr.Constant (Const.bytes [73, 86, 88, 76, 67, 68, 77]) k0 p2] p3) Q) E s := by
  refine KBw.pyIter_bytes ?_
  refine ⟨fun _ => true, fun _ y => y = .bool true, s.heap.objs.size, [s.heap.objs.size], [s.heap.objs.size], B.size, _, _, rfl, KBw.walks hh s.heap.objs.size B t, by rw [sizeLine_eq]; omega, ⟨_, Heap.get?_push_size _ rfl, rfl, rfl⟩, ?_, ⟨?_, ?_⟩, ?_⟩
  · intro b hb
    rw [List.mem_singleton.mp hb, Heap.size_push]; exact Nat.lt_succ_self _
  · intro C i v s₃ m₃ E' hP hn hx hkeep htk
    exact wpAny_pure ⟨rfl, s₃.heap, s₃.toks, rfl, fun _ _ e => e⟩
  · rintro C i v s₃ m₃ E' ⟨c, u, hc, rfl⟩ _ hn hx hkeep htk
    have hcB : c ∈ B.toList := Array.mem_toList_iff.mpr (Array.mem_of_getElem? hc)
    have hcc := hB c hcB
    refine wpAny_Compare1 ?_
    refine wpAny_Name (wpAny_loadName_local hk (hl C) hn hx ?_) (by decide +kernel)
    refine Constant_bytes (in_bytes (by omega) (by have := c.toNat_lt; omega) ⟨?_, ⟨s₃.heap, _, rfl, fun _ _ e => e⟩⟩)
    have e : ((c.toNat : Int).toNat).toUInt8 = c := by simp
    rw [e]
    exact congrArg Value.bool hcc
  · intro D h' tk ys vs hD hL hP hlen hPj hpair hkeep
    obtain ⟨ep, hPl⟩ := hP
    have F1 := F.push ({ cls := .type "bytes_iterator", data := .fields #[.bytes B t, .int 0 0] } : Obj)
    have hLne : L ∉ [s.heap.objs.size] := fun hm => absurd F.ns.lt ((List.mem_singleton.mp hm) ▸ Nat.lt_irrefl _)
    have hDL : D ≠ L := fun e => by
      obtain ⟨oL, _, _, hoL, _⟩ := F1.ns
      rw [← e] at hoL
      exact absurd (hoL.symm.trans hD) (by simp)
    have hk0 : ∀ b o, h₀.get? b = some o → h'.get? b = some o := fun b o e =>
      hkeep b o (fun hm => absurd (Heap.lt_size (F.keep b o e)) ((List.mem_singleton.mp hm) ▸ Nat.lt_irrefl _)) (F1.keep b o e)
    refine h D ys ep h' tk ys.toList.length ⟨F1.ns.at' fun o e => hkeep _ o hLne e, hk0, F.above⟩ ?_ (paired_bools hpair)
    intro p hp
    rcases List.mem_cons.mp hp with rfl | hp
    · refine ⟨hPl, hDL, ?_⟩
      cases e : h₀.get? D with
      | none => rfl
      | some o => exact absurd ((F1.keep D o e).symm.trans hD) (by simp)
    · refine ⟨hkeep _ _ (fun hm => absurd (Heap.lt_size (N p hp).1) ((List.mem_singleton.mp hm) ▸ Nat.lt_irrefl _)) (Heap.get?_push_of_some _ (N p hp).1), (N p hp).2⟩
end
end
section
theorem all_rep (k : Nat) : (List.replicate k true).all id = true := by
  induction k with
  | zero => rfl
  | succ k ih => rw [List.replicate_succ, List.all_cons, ih]; rfl
theorem all_own {prog : Program} {w : World} {A : Around} {E : Value → Shared → Prop} {s : Shared} {h₀ : Heap} {L D : Addr} {m : Str → Option Value} {news : List (Addr × Obj)} {ys : Array Value} {ep k : Nat} {Q : Value → Shared → Prop}
    (F : Fr h₀ L s.heap m) (N : News h₀ L s.heap ((D, W.listOf ys ep) :: news)) (hh : A.handled = none) (hb : LSm.BoolsAre ys.toList (List.replicate k true))
    (h : ∀ h' tk, Fr h₀ L h' m → News h₀ L h' news → Q (.bool true) { s with heap := h', toks := tk }) : wpAny (model prog w) A (call (.builtin "all") [.ref D]) Q E s := by
  have hl : s.heap.IsList D ys.toList.toArray := ⟨_, (N _ (.head _)).1, rfl, ep, by simp⟩
  refine LSm.all_bools F N hh hl hb fun h' tk F' N' => ?_
  rw [all_rep]
  exact h h' tk F' (news_sub N' fun p hp => .tail _ hp)
theorem unrEnd_one {h₀ : Heap} {L I : Addr} {it : Obj} {rest : (Str → Option Value) → List (Addr × Obj) → Prop} {s₁ : Shared} {h' : Heap} {tk : Nat} {m' : Str → Option Value} {news' : List (Addr × Obj)}
    (F : Fr h₀ L h' m') (N : News h₀ L h' ((I, it) :: news')) (off : ∀ p ∈ news', p.1 < I) (r : rest m' news') : UnrEnd h₀ L s₁ I it rest { s₁ with heap := h', toks := tk } :=
  ⟨h', tk, m', news', rfl, F, N, fun p hp => Nat.ne_of_lt (off p hp), r⟩
theorem cut_next {M : Model} {A : Around} {E : Value → Shared → Prop} {s : Shared} {t : Sem Flow} {Q : Flow → Shared → Prop} (Post : Shared → Prop)
    (h1 : wpAny M A t (fun f s' => f = .next ∧ Post s') E s) (h2 : ∀ s', Post s' → Q .next s') : wpAny M A t Q E s :=
  wpAny_mono h1 (fun f s' x => by obtain ⟨rfl, hp⟩ := x; exact h2 s' hp) fun _ _ x => x
structure StopIf : Prop where
theorem cut_fr {M : Model} {A : Around} {E : Value → Shared → Prop} {t : Sem Flow} {Q : Flow → Shared → Prop} {h₀ : Heap} {L : Addr} {hp : Heap} {g : Array GenState} {d : Drawn} {o : OsState} {tk : Nat} {m : Str → Option Value} {led : List (Addr × Obj)}
    (F : Fr h₀ L hp m) (N : News h₀ L hp led) (P : (Str → Option Value) → Prop)
    (h1 : wpAny M A t (fun f s' => Hold (f = .next ∧ ∃ h' tk m', s' = ⟨h', g, d, tk, o⟩ ∧ Fr h₀ L h' m' ∧ News h₀ L h' led ∧ P m')) E ⟨hp, g, d, tk, o⟩)
    (h2 : ∀ h' tk m', P m' → Fr h₀ L h' m' → News h₀ L h' led → Q .next ⟨h', g, d, tk, o⟩) : wpAny M A t Q E ⟨hp, g, d, tk, o⟩ :=
  wpAny_mono h1 (fun f s' x => by
    unfold Hold at x
    obtain ⟨rfl, h', tk', m', rfl, F', N', hP⟩ := x
    exact h2 h' tk' m' hP F' N') fun _ _ x => x
theorem rangeRest_ind {prog : Program} {w : World} {A : Around} {E : Value → Shared → Prop} {h₀ : Heap} {env : Env} {x : Str} {body : List Stmt} {Q : Flow → Shared → Prop} {s : Shared} {I : Addr} {a : Int} {n : Nat} {news : List (Addr × Obj)}
    (P : Nat → (Str → Option Value) → Prop) (hz : ∀ i m, P 0 m → RangeRest prog w A E h₀ env x body Q s I a n 0 i m news)
    (hs : ∀ k i m, P (k + 1) m → (∀ m', P k m' → RangeRest prog w A E h₀ env x body Q s I a n k (i + 1) m' news) → RangeRest prog w A E h₀ env x body Q s I a n (k + 1) i m news) :
    ∀ k i m, P k m → RangeRest prog w A E h₀ env x body Q s I a n k i m news
  | 0, i, m, h => hz i m h
  | k + 1, i, m, h => hs k i m h fun m' h' => rangeRest_ind P hz hs k (i + 1) m' h'
def cutL (b : Array UInt8) (k d : Nat) : List UInt8 := (b.toList.drop k).take d
def cutB (b : Array UInt8) (k d : Nat) : Array UInt8 := (cutL b k d).toArray
theorem picked_cut (b : Array UInt8) (i : Int) (d : Nat) (hi : 0 ≤ i) : KBy.picked b (some i) (some (i + d)) = cutB b i.toNat d := by
  obtain ⟨k, rfl⟩ := Int.eq_ofNat_of_zero_le hi
  rw [KBc.picked_eq]
  unfold cutB cutL
  have e1 : clipAt b.size (k : Int) = min k b.size := clipAt_nat b.size k
  have e2 : clipAt b.size ((k : Int) + (d : Int)) = min (k + d) b.size := by
    have := clipAt_nat b.size (k + d)
    rw [← this]; congr 1
  show (((b.toList.drop (clipAt b.size (k : Int))).take (clipAt b.size ((k : Int) + d) - clipAt b.size (k : Int)))).toArray = _
  rw [e1, e2, Int.toNat_natCast]
  congr 1
  have hl : b.toList.length = b.size := Array.length_toList
  by_cases hk : k ≤ b.size
  · rw [Nat.min_eq_left hk]
    by_cases hd : k + d ≤ b.size
    · rw [Nat.min_eq_left hd]; congr 1; omega
    · rw [Nat.min_eq_right (by omega), List.take_of_length_le (by rw [List.length_drop, hl]; exact Nat.le_refl _), List.take_of_length_le (by rw [List.length_drop, hl]; omega)]
  · rw [Nat.min_eq_right (by omega), List.drop_eq_nil_of_le (by omega), List.drop_eq_nil_of_le (by omega), List.take_nil, List.take_nil]
theorem slice_cut {prog : Program} {w : World} {A : Around} {E : Value → Shared → Prop} {s : Shared} {h₀ : Heap} {L : Addr} {m : Str → Option Value} {news : List (Addr × Obj)} {value slice : PySem.Expr} {b : Array UInt8} {t ti tj : Tok} {i j : Int} {Q : Value → Shared → Prop} (d : Nat)
    (hF : Fr h₀ L s.heap m) (hN : News h₀ L s.heap news) (hi : 0 ≤ i) (hj : j = i + (d : Int)) (hz : b.size ≤ 1000)
    (h : ∀ h' t' k, Fr h₀ L h' m → News h₀ L h' news → Q (.bytes (cutB b i.toNat d) t') { s with heap := h', toks := k })
    (hs : subscripted slice false (.bytes b t) (.ref s.heap.objs.size) = operate [.ref s.heap.objs.size, .bytes b t] (getItem (.bytes b t) (.ref s.heap.objs.size)))
    (ht : ∀ r, letTemporaryGo value (.bytes b t) r = pure ()) :
    wpAny (model prog w) A (subscriptTail value slice (.bytes b t) (.ref s.heap.objs.size)) Q E { s with heap := s.heap.push { cls := .type "slice", data := .fields #[.int i ti, .int j tj, .none] } } := by
  subst hj
  refine KBc.slice_K hF hN rfl (.int i ti) (.int _ tj) (by rw [KBw.ints_length]; omega) (fun h' t' k F' N' _ => ?_) hs ht
  rw [picked_cut b i d hi]
  exact h h' t' k F' N'
theorem eq_cut {prog : Program} {w : World} {A : Around} {E : Value → Shared → Prop} {s : Shared} {b : Array UInt8} {k d : Nat} {l : List UInt8} {t u : Tok} {Q : Value → Shared → Prop} (h : Q (.bool (cutL b k d == l)) s) :
    wpAny (model prog w) A (compareOp .Eq (.bytes (cutB b k d) t) (.bytes l.toArray u)) Q E s := eq_bytes h
theorem ite_p {c : Prop} {dc : Decidable c} {X Y : Prop} (h : c) (x : X) : if c then X else Y := by rw [if_pos h]; exact x
theorem ite_n {c : Prop} {dc : Decidable c} {X Y : Prop} (h : ¬ c) (y : Y) : if c then X else Y := by rw [if_neg h]; exact y
theorem fr4 {h₀ h : Heap} {L : Addr} {m : Str → Option Value} {n1 n2 n3 n4 : Str} {v1 v2 v3 v4 : Value} (F : Fr h₀ L h m) (e1 : m n1 = some v1) (e2 : m n2 = some v2) (e3 : m n3 = some v3) (e4 : m n4 = some v4) :
    Fr h₀ L h (fun y => if y = n1 then some v1 else if y = n2 then some v2 else if y = n3 then some v3 else if y = n4 then some v4 else m y) := by
  have e : (fun y => if y = n1 then some v1 else if y = n2 then some v2 else if y = n3 then some v3 else if y = n4 then some v4 else m y) = m := by
    funext y
    split
    · rename_i h; rw [h, e1]
    split
    · rename_i h; rw [h, e2]
    split
    · rename_i h; rw [h, e3]
    split
    · rename_i h; rw [h, e4]
    rfl
  rw [e]; exact F
def loopB (B : Array UInt8) (l : UInt8) (V : Int) : Nat → Int → Int → Int × Int
  | 0, i, r => (i, r)
  | k + 1, i, r => if (cutL B i.toNat 1 == [l]) = true then loopB B l V k (i + 1) (r + V) else (i, r)
def blockB (B : Array UInt8) (a9 b9 : UInt8) (V9 : Int) (a4 b4 : UInt8) (V4 : Int) (l5 : UInt8) (V5 : Int) (l1 : UInt8) (V1 : Int) (i r : Int) : Int × Int :=
  if (cutL B i.toNat 2 == [a9, b9]) = true then (i + 2, r + V9) else if (cutL B i.toNat 2 == [a4, b4]) = true then (i + 2, r + V4) else
  if (cutL B i.toNat 1 == [l5]) = true then loopB B l1 V1 3 (i + 1) (r + V5) else loopB B l1 V1 3 i r
def blockH (B : Array UInt8) : Int → Int → Int × Int := blockB B 67 77 900 67 68 400 68 500 67 100
def blockT (B : Array UInt8) : Int → Int → Int × Int := blockB B 88 67 90 88 76 40 76 50 88 10
def blockU (B : Array UInt8) : Int → Int → Int × Int := blockB B 73 88 9 73 86 4 86 5 73 1
def parse3 (B : Array UInt8) (n i r : Int) : Prop := (B.size : Int) = (blockU B i r).1 ∧ n = (blockU B i r).2
def parse2 (B : Array UInt8) (n i r : Int) : Prop := if (B.size : Int) = (blockT B i r).1 then n = (blockT B i r).2 else parse3 B n (blockT B i r).1 (blockT B i r).2
def parse1 (B : Array UInt8) (n i r : Int) : Prop := if (B.size : Int) = (blockH B i r).1 then n = (blockH B i r).2 else parse2 B n (blockH B i r).1 (blockH B i r).2
def parse0 (B : Array UInt8) (n : Int) : Prop := if (B.size : Int) = (loopB B 77 1000 4 0 0).1 then n = (loopB B 77 1000 4 0 0).2 else parse1 B n (loopB B 77 1000 4 0 0).1 (loopB B 77 1000 4 0 0).2
theorem newList_own {M : Model} {A : Around} {E : Value → Shared → Prop} {s : Shared} {h₀ : Heap} {L : Addr} {m : Str → Option Value} {news : List (Addr × Obj)} {vs : List Value} {Q : Value → Shared → Prop} (F : Fr h₀ L s.heap m) (N : News h₀ L s.heap news)
    (h : ∀ D h', Fr h₀ L h' m → News h₀ L h' ((D, W.listOf vs.toArray 0) :: news) → (∀ p ∈ news, p.1 < D) → Q (.ref D) { s with heap := h' }) (hsz : vs.length ≤ 1000) : wpAny M A (newList vs) Q E s :=
  newList_N F N (fun h' F' N' => h s.heap.objs.size h' F' N' fun p hp => Heap.lt_size (N p hp).1) (by rw [sizeLine_eq]; omega)
theorem eq_lists_own {prog : Program} {w : World} {A : Around} {E : Value → Shared → Prop} {s : Shared} {h₀ : Heap} {L D1 D2 : Addr} {led : List (Addr × Obj)} {n : Int} {t1 t2 t3 t4 : Tok} {k1 k2 : Nat} {Q : Value → Shared → Prop} (N : News h₀ L s.heap led)
    (m1 : (D1, W.listOf [Value.int n t1, Value.int n t2].toArray k1) ∈ led) (m2 : (D2, W.listOf [Value.int n t3, Value.int n t4].toArray k2) ∈ led) (hu : A.units + 64 < cLine) (h : Q (.bool true) s) :
    wpAny (model prog w) A (compareOp .Eq (.ref D1) (.ref D2)) Q E s := by
  refine eq_intsK (vs := [Value.int n t1, Value.int n t2]) (us := [Value.int n t3, Value.int n t4]) (ns := [n, n]) (ms := [n, n]) ⟨_, (N _ m1).1, rfl, k1, rfl⟩ (.cons _ _ (.cons _ _ .nil)) ⟨_, (N _ m2).1, rfl, k2, rfl⟩ (.cons _ _ (.cons _ _ .nil)) hu ?_
  rw [decide_eq_true rfl]
  exact h
theorem div4999_step {prog : Program} {w : World} {A : Around} {E : Value → Shared → Prop} {s : Shared} {t u : Tok} {m : Int} {Q : Value → Shared → Prop} (h1 : 1 ≤ m) (h2 : m ≤ 1250)
    (hq : ∀ q : Int, q = Int.fdiv 4999 m → 3 ≤ q → q ≤ 4999 → m * q ≤ 4999 → Q (.int q s.toks) { s with toks := s.toks + 1 }) : wpAny (model prog w) A (binaryOp .FloorDiv (.int 4999 t) (.int m u)) Q E s := by
  have e : Int.fdiv 4999 m = 4999 / m := Int.fdiv_eq_ediv_of_nonneg _ (by omega)
  have h3 : 3 ≤ (4999 : Int) / m := by
    rw [Int.le_ediv_iff_mul_le (by omega)]; omega
  have h4 : (4999 : Int) / m ≤ 4999 := Int.ediv_le_self _ (by omega)
  have h5 : m * (4999 / m) ≤ 4999 := Int.mul_ediv_self_le (by omega)
  refine floordiv_int (by omega) (hq _ rfl (by rw [e]; exact h3) (by rw [e]; exact h4) (by rw [e]; exact h5)) (Or.inl (PyProof.noPylong_small (by omega)))
end
section
section
open PySem.Calls PyProof.V PySem.Spec LCg
variable {prog : Program} {w : World} {A : Around} {E : Value → Shared → Prop} {s : Shared} {h₀ : Heap} {L : Addr} {m : Str → Option Value} {env : Env}
def TupAt (ax : Addr) (its : Array Value) (nw : List (Addr × Obj)) : Prop := ∃ o, (ax, o) ∈ nw ∧ o.cls = .type "tuple" ∧ ∃ n, o.data = .seq its n
def TupSrc (prog : Program) (w : World) (A : Around) (h₀ : Heap) (L : Addr) (m : Str → Option Value) (env : Env) (elt : Expr) (x : Str) (scope : Scope) (cl : List (Str × Addr)) (Fin : Shared → List Value → List (Addr × Obj) → Prop) (xv : Value) (s₁ : Shared) : Prop :=
  ∃ ax its news, xv = .ref ax ∧ A.handled = none ∧ Fr h₀ L s₁.heap m ∧ News h₀ L s₁.heap news ∧ TupAt ax its news ∧ its.size ≤ sizeLine ∧
    ∀ g, CompRest prog w A h₀ L m env elt x scope cl { s₁ with heap := g } (TupAt ax its) (fun i v => its[i]? = some v) (Fin { s₁ with heap := g }) its.size 0 [] news
theorem assign_comp_tup {elt iter : Expr} {x y : Str} {px py : Pos} {scope : Scope} {cl : List (Str × Addr)} {pos spos : Pos} {Q : Flow → Shared → Prop} (_F₀ : Fr h₀ L s.heap m) (hLe : env.locals = L)
    (hsw : swapsWith (.ListComp elt [⟨.Name x px, iter, [], 0⟩] scope pos) (some (.Name y py)) spos.line env = pure true)
    (hclos : closureFor scope env = pure cl) (hcell : ∀ z ∈ scope.names, z.2 ≠ .cell) (hkind : scope.kind = .function)
    (hnames : ∀ z ∈ scope.names, z.2 = .local → scope.names.lookup z.1 = some .local) (hx : scope.names.lookup x = some .local)
    (hy : env.kindOf y = some .local) (hp : (env.scope.kind == .class || (env.scope.kind == .module && env.locals != env.globals)) = false)
    (h : wpAny (model prog w) A (eval iter env) (TupSrc prog w A h₀ L m env elt x scope cl (fun s₂ => FinA h₀ L m s₂ y Q)) E s)
    (hs : ∀ x, foldedSetIterable iter env x = pure x) :
    wpAny (model prog w) A (exec (.Assign [.Name y py] (.ListComp elt [⟨.Name x px, iter, [], 0⟩] scope pos) spos) env) Q E s := by
  subst hLe
  rw [exec_Assign_Name_used _ _ _ _ hsw]
  refine wpAny_bind (wpAny_standAt (wpAny_bind ?_))
  show wpAny _ A (do let _ ← comprehension (.ListComp elt [⟨.Name x px, iter, [], 0⟩] scope pos) scope env _ (newList []) false (eval iter env) (some (assign (.Name y py) env))) _ _ s
  refine wpAny_bind (wpAny_mono (wpAny_comprehension_free (use := some (assign (.Name y py) env)) (Q := fun _ s' => Q .next s') rfl hs hclos hkind hnames
    (wpAny_mono h (fun xv s₁ h₁ => ?_) fun _ _ e => e)) (fun _ s' hq => wpAny_pure (wpAny_pure hq)) fun _ _ e => e)
  obtain ⟨ax, its, news, rfl, hh, F, N, S, hsz, R⟩ := h₁
  obtain ⟨oT, hTm, hTc, nT, hTd⟩ := id S
  have hget : s₁.heap.get? ax = some oT := (N _ hTm).1
  have hl : s₁.heap.IsTuple ax its := ⟨oT, hget, hTc, nT, hTd⟩
  have hlt : ax < s₁.heap.objs.size := Heap.lt_size hget
  refine wpAny_pyIter_tuple hl ?_
  have up : ∀ (o : Obj) b o', s₁.heap.get? b = some o' → (s₁.heap.push o).get? b = some o' := fun o b o' e => Heap.get?_push_of_some _ e
  refine block_U (Walks.tuple hh s₁.heap.objs.size ax (Nat.ne_of_lt hlt) its) hsz (fun i g st => by obtain ⟨o, e, _⟩ := st.1; exact ⟨o, e⟩) (fun i g g' o nw st e e' k N' S' => ?_) hcell hkind hx
    ⟨⟨_, Heap.get?_push_size _ rfl, rfl, rfl⟩, ⟨oT, up _ _ _ hget, hTc, nT, hTd⟩⟩ (fun b hb => ?_)
    (F.keeps (up _)) (N.grown (up _)) (Nat.ne_of_lt F.ns.lt) (next_is_new F) (fun p hp => Nat.ne_of_lt (Heap.lt_size (N p hp).1)) S (R _) ?_
  · obtain ⟨o2, m2, c2, n2, d2⟩ := S'
    refine ⟨?_, ⟨o2, (N' _ m2).1, c2, n2, d2⟩⟩
    obtain ⟨o3, q3, r3⟩ := st.1
    rw [e] at q3
    cases q3
    exact ⟨o, e', r3⟩
  · rw [Heap.size_push]
    rcases List.mem_cons.mp hb with rfl | hb
    · exact Nat.lt_succ_self _
    · rw [List.mem_singleton.mp hb]; exact Nat.lt_succ_of_lt hlt
  · intro D C h' tk m' ys news' F' N' o1 hn hC₀ hD₀ hCL hDL hCD offC fin
    show wpAny _ A (assign (.Name y py) env (.ref D)) _ _ _
    refine wpAny_assign_Name (wpAny_storeName_local hy F'.ns (fun h₂ hn₂ hs₂ => ?_) hp)
    have hL₀ : h₀.get? env.locals = none := Heap.get?_none_of_le F'.above
    have F₂ : Fr h₀ env.locals h₂ (fun z => if z = y then some (.ref D) else m z) := ⟨hn₂, fun b o e => hs₂.extBut b o (fun q => by rw [q, hL₀] at e; cases e) (F'.keep b o e), F'.above⟩
    refine ⟨m', hn.sameBut hs₂ hCL, fun h'' hs'' => fin D h'' _ (F₂.change hs'' hCL hC₀) (fun p hp => ?_) o1⟩
    have z : h₂.get? p.1 = some p.2 := hs₂.extBut _ _ (N' p hp).2.1 (N' p hp).1
    refine ⟨hs''.extBut _ _ ?_ z, (N' p hp).2⟩
    rcases List.mem_cons.mp hp with rfl | hp
    · exact Ne.symm hCD
    · exact offC p hp
theorem compRest_ind {elt : Expr} {x : Str} {scope : Scope} {cl : List (Str × Addr)} {S : List (Addr × Obj) → Prop} {PI : Nat → Value → Prop} {Fin : List Value → List (Addr × Obj) → Prop} {news : List (Addr × Obj)} (n : Nat) (P : Nat → List Value → Prop)
    (hz : ∀ ys, P n ys → Fin ys news)
    (hs : ∀ k i ys, i + (k + 1) = n → P i ys → (∀ y, P (i + 1) (ys ++ [y]) → CompRest prog w A h₀ L m env elt x scope cl s S PI Fin k (i + 1) (ys ++ [y]) news) → CompRest prog w A h₀ L m env elt x scope cl s S PI Fin (k + 1) i ys news) :
    ∀ k i ys, i + k = n → P i ys → CompRest prog w A h₀ L m env elt x scope cl s S PI Fin k i ys news
  | 0, i, ys, e, h => by
    have e' : i = n := e
    subst e'
    exact hz ys h
  | k + 1, i, ys, e, h => hs k i ys e h fun y hy => compRest_ind n P hz hs k (i + 1) (ys ++ [y]) (by omega) hy
end
section
open PySem.Calls PyProof.V PySem.Spec LCg
theorem intsAre_get : ∀ {vs : List Value} {ns : List Int}, IntsAre vs ns → ∀ (i : Nat) (v : Value), vs[i]? = some v → ∃ k t, v = .int k t ∧ ns[i]? = some k
  | _, _, .nil, i, v, h => by simp at h
  | _, _, .cons k t r, 0, v, h => by
    simp at h
    exact ⟨k, t, h.symm, rfl⟩
  | _, _, .cons k t r, i + 1, v, h => by
    obtain ⟨k', t', e1, e2⟩ := intsAre_get r i v (by simpa using h)
    exact ⟨k', t', e1, by simpa using e2⟩
theorem tup_src_str {prog : Program} {w : World} {A : Around} {s₁ : Shared} {h₀ : Heap} {L : Addr} {m : Str → Option Value} {env : Env} {elt : Expr} {x : Str} {scope : Scope} {cl : List (Str × Addr)} {Fin : Shared → List Value → List (Addr × Obj) → Prop} {ax : Addr} {news : List (Addr × Obj)}
    {vs : List Value} {ns : List Int} {k0 : Nat} (f : Int → Str) (hh : A.handled = none) (F : Fr h₀ L s₁.heap m) (N : News h₀ L s₁.heap news) (hm : (ax, ({ cls := .type "tuple", data := .seq vs.toArray k0 } : Obj)) ∈ news) (hi : IntsAre vs ns) (hsz : ns.length ≤ 1000)
    (hel : ∀ k t ys I oI C oC D m₂ h tk (E' : Value → Shared → Prop), k ∈ ns → NsObj oC m₂ → m₂ x = some (.int k t) → Fr h₀ L h m → News h₀ L h ((I, oI) :: (C, oC) :: (D, lst ys) :: news) →
      wpAny (model prog w) A (eval elt (compEnvC scope cl C env)) (fun y s₂ => Hold (∃ h' tk' u, y = .str (f k) u ∧ s₂ = { s₁ with heap := h', toks := tk' } ∧ Fr h₀ L h' m ∧ News h₀ L h' ((I, oI) :: (C, oC) :: (D, lst ys) :: news))) E' { s₁ with heap := h, toks := tk })
    (hfin : ∀ ys g, StrsAre ys (ns.map f) → Fin { s₁ with heap := g } ys news) : TupSrc prog w A h₀ L m env elt x scope cl Fin (.ref ax) s₁ := by
  have hlen : vs.length = ns.length := hi.length
  refine ⟨ax, vs.toArray, news, rfl, hh, F, N, ⟨_, hm, rfl, k0, rfl⟩, by rw [List.size_toArray, sizeLine_eq]; omega, fun g => ?_⟩
  refine compRest_ind vs.toArray.size (fun i ys => StrsAre ys ((ns.take i).map f)) (fun ys hy => ?_) (fun k i ys e hy ih => ?_) vs.toArray.size 0 [] (Nat.zero_add _) .nil
  · rw [List.size_toArray, hlen, List.take_length] at hy
    exact hfin ys g hy
  · refine CompRest.succ fun v I oI C oC D m₂ h tk E' hP hns hmx F' N' off hne => ?_
    obtain ⟨k1, t1, rfl, hk1⟩ := intsAre_get hi i v (by simpa using hP)
    have hmem : k1 ∈ ns := List.mem_of_getElem? hk1
    refine wpAny_mono (hel k1 t1 ys I oI C oC D m₂ h tk E' hmem hns hmx F' N') (fun y s₂ hy2 => ?_) fun _ _ q => q
    obtain ⟨h', tk', u, rfl, rfl, F2, N2⟩ := hy2
    refine ⟨h', tk', news, rfl, F2, N2, off, ⟨_, hm, rfl, k0, rfl⟩, ih _ ?_⟩
    have e2 : (ns.take (i + 1)).map f = (ns.take i).map f ++ [f k1] := by
      rw [List.take_add_one, hk1, List.map_append]; rfl
    rw [e2]
    exact hy.append' (.cons _ _ .nil)
end
end
section
local macro_rules | `(tactic| walk_at "exec For Tuple Tuple cons nil") => `(tactic| (k_here; (rename Fr _ _ _ _ => lF'); (refine' For_turns (hE := ?hE) (hs := ?hs) lF' ?_); (case hE => k_dflt passes_own); (case hs => k_dflt (intro _; rfl))))
local macro_rules | `(tactic| walk_at "pyIter ref") => `(tactic| (k_here; (with_reducible show wpAny _ _ (pyIter (Value.ref _)) (fun it s₂ => TurnsAt _ _ _ _ _ _ _ _ _ it s₂) _ _); (rename Fr _ _ _ _ => lF'); (rename News _ _ _ _ => lN'); k_dflt (refine' iter_tupTurns (by rfl) lF' lN' (by k_mem) (by rfl) (by rfl) ?_); clear lF'; intro i' l1))
local macro_rules | `(tactic| walk_at "UnrEndW") => `(tactic| (refine unrEndW_one (by assumption) (by assumption) (by assumption) ⟨⟨by k_mem, trivial⟩, ?_⟩))
local macro_rules | `(tactic| walk_at "call builtin:str.replace") => `(tactic| ((with_reducible show wpAny _ _ (call (Value.builtin "str.replace") [Value.str _ _, Value.str _ _, Value.str _ _]) _ _ _); k_dflt (first | (refine repl_step 2 _ (by with_reducible assumption) ?_ ?_ ?_ (by decide +kernel) (by decide +kernel) (by omega) ?_) | (refine repl_step 5 _ (by with_reducible assumption) ?_ ?_ ?_ (by decide +kernel) (by decide +kernel) (by omega) ?_)); k_dflt (show @Ne Nat _ _; omega); k_dflt (show @Ne Nat _ _; omega); k_dflt (show @Ne Nat _ _; omega); intro t' k' hl'))
local macro_rules | `(tactic| walk_at "call builtin:str.count") => `(tactic| ((with_reducible show wpAny _ _ (call (Value.builtin "str.count") [Value.str _ _, Value.str _ _]) _ _ _); refine count_step ?_; intro c' hc' hc0' hc1'))
local macro_rules | `(tactic| walk_at "binaryOp Mod int int") => `(tactic| (k_dflt (refine mod_step (by omega) ?_); intro r' hr' hr0' hr1'))
local macro_rules | `(tactic| walk_at "binaryOp FloorDiv int int") => `(tactic| (k_dflt (refine div_step (by omega) (by omega) (by omega) (by omega) ?_); intro q' hq' hq0' hq1'))
local macro_rules | `(tactic| walk_at "binaryOp Mult str int") => `(tactic| (k_dflt (first | refine mul_step 5 (by decide +kernel) (by omega) (by omega) (by omega) ?_ | refine mul_step 8000 (by decide +kernel) (by omega) (by omega) (by omega) ?_); intro t' k' hl'))
local macro_rules | `(tactic| walk_at "binaryOp Add str str") => `(tactic| (k_dflt (refine add_step (by first | with_reducible assumption | exact len_empty) (by first | with_reducible assumption | exact len_empty) (by omega) ?_); intro t' k' hl'))
local macro_rules | `(tactic| walk_at "execs cons") => `(tactic| (k_here; (refine execs_cons_toks (by first | with_reducible assumption | omega) ?_); intro tk' htk'; try dsimp only))
def opened (x : Str) : Str :=
  Txt.replace (Txt.replace (Txt.replace (Txt.replace (Txt.replace (Txt.replace x (Str.ofString "CM") (Str.ofString "DCCCC")) (Str.ofString "CD") (Str.ofString "CCCC")) (Str.ofString "XC") (Str.ofString "LXXXX")) (Str.ofString "XL") (Str.ofString "XXXX")) (Str.ofString "IX") (Str.ofString "VIIII")) (Str.ofString "IV") (Str.ofString "IIII")

theorem opened_ok (w : World) (mean : ExcName → Option Value) (mg mb : Str → Option Value) (news : List (Addr × Obj)) (x : Str) (t : Tok) :
  Gl w mean mg mb 1 128 news (x.length ≤ 100) [Value.str x t] (RetV news fun t => .str (opened x) t) := by
  dsimp only [Gl, RetV, TopM]
  k_fill
  intro dp un gd cn cs a ccd cl outer A₀ base h₀ L m s Q E B F X N T hk hpre hdp hun hret
  refine wpAny_call ?_
  k_dflt cell_enter
  refine toks_gen ?k1 ?k2
  case k1 =>
    refine Nat.le_trans ?j (Nat.le_add_left _ _)
    with_unfolding_all exact (Nat.le_refl 1)
  intro tk htk
  k_steps
  exact hret _ _ _ (by assumption) (fun p hp => (by assumption : News h₀ L _ _) p (by (repeat apply List.mem_cons_of_mem); exact hp))
end
section
local macro_rules | `(tactic| walk_at "exec For Tuple Tuple cons nil") => `(tactic| (k_here; (rename Fr _ _ _ _ => lF'); (refine' For_turns (hE := ?hE) (hs := ?hs) lF' ?_); (case hE => k_dflt passes_own); (case hs => k_dflt (intro _; rfl))))
local macro_rules | `(tactic| walk_at "pyIter ref") => `(tactic| (k_here; (with_reducible show wpAny _ _ (pyIter (Value.ref _)) (fun it s₂ => TurnsAt _ _ _ _ _ _ _ _ _ it s₂) _ _); (rename Fr _ _ _ _ => lF'); (rename News _ _ _ _ => lN'); k_dflt (refine' iter_tupTurns (by rfl) lF' lN' (by k_mem) (by rfl) (by rfl) ?_); clear lF'; intro i' l1))
local macro_rules | `(tactic| walk_at "UnrEndW") => `(tactic| (refine unrEndW_one (by assumption) (by assumption) (by assumption) ⟨⟨by k_mem, trivial⟩, ?_⟩))
local macro_rules | `(tactic| walk_at "call builtin:str.replace") => `(tactic| ((with_reducible show wpAny _ _ (call (Value.builtin "str.replace") [Value.str _ _, Value.str _ _, Value.str _ _]) _ _ _); k_dflt (first | (refine repl_step 2 _ (by with_reducible assumption) ?_ ?_ ?_ (by decide +kernel) (by decide +kernel) (by omega) ?_) | (refine repl_step 5 _ (by with_reducible assumption) ?_ ?_ ?_ (by decide +kernel) (by decide +kernel) (by omega) ?_)); k_dflt (show @Ne Nat _ _; omega); k_dflt (show @Ne Nat _ _; omega); k_dflt (show @Ne Nat _ _; omega); intro t' k' hl'))
local macro_rules | `(tactic| walk_at "call builtin:str.count") => `(tactic| ((with_reducible show wpAny _ _ (call (Value.builtin "str.count") [Value.str _ _, Value.str _ _]) _ _ _); refine count_step ?_; intro c' hc' hc0' hc1'))
local macro_rules | `(tactic| walk_at "binaryOp Mod int int") => `(tactic| (k_dflt (refine mod_step (by omega) ?_); intro r' hr' hr0' hr1'))
local macro_rules | `(tactic| walk_at "binaryOp FloorDiv int int") => `(tactic| (k_dflt (refine div_step (by omega) (by omega) (by omega) (by omega) ?_); intro q' hq' hq0' hq1'))
local macro_rules | `(tactic| walk_at "binaryOp Mult str int") => `(tactic| (k_dflt (first | refine mul_step 5 (by decide +kernel) (by omega) (by omega) (by omega) ?_ | refine mul_step 8000 (by decide +kernel) (by omega) (by omega) (by omega) ?_); intro t' k' hl'))
local macro_rules | `(tactic| walk_at "binaryOp Add str str") => `(tactic| (k_dflt (refine add_step (by first | with_reducible assumption | exact len_empty) (by first | with_reducible assumption | exact len_empty) (by omega) ?_); intro t' k' hl'))
local macro_rules | `(tactic| walk_at "execs cons") => `(tactic| (k_here; (refine execs_cons_toks (by first | with_reducible assumption | omega) ?_); intro tk' htk'; try dsimp only))
def gI (x : Str) : Int := Txt.count x (Str.ofString "I") + 0
def gV (x : Str) : Int := Txt.count x (Str.ofString "V") + (gI x).fdiv 5
def gX (x : Str) : Int := Txt.count x (Str.ofString "X") + (gV x).fdiv 2
def gL (x : Str) : Int := Txt.count x (Str.ofString "L") + (gX x).fdiv 5
def gC (x : Str) : Int := Txt.count x (Str.ofString "C") + (gL x).fdiv 2
def gD (x : Str) : Int := Txt.count x (Str.ofString "D") + (gC x).fdiv 5
def gM (x : Str) : Int := Txt.count x (Str.ofString "M") + (gD x).fdiv 2
def shrunk (x : Str) : Str :=
  Txt.replace (Txt.replace (Txt.replace (Txt.replace (Txt.replace (Txt.replace x (Str.ofString "DCCCC") (Str.ofString "CM")) (Str.ofString "CCCC") (Str.ofString "CD")) (Str.ofString "LXXXX") (Str.ofString "XC")) (Str.ofString "XXXX") (Str.ofString "XL")) (Str.ofString "VIIII") (Str.ofString "IX")) (Str.ofString "IIII") (Str.ofString "IV")
def gathered (x : Str) : Str :=
  shrunk (Txt.mul (Str.ofString "M") (gM x) ++ (Txt.mul (Str.ofString "D") ((gD x).fmod 2) ++ (Txt.mul (Str.ofString "C") ((gC x).fmod 5) ++ (Txt.mul (Str.ofString "L") ((gL x).fmod 2) ++
    (Txt.mul (Str.ofString "X") ((gX x).fmod 5) ++ (Txt.mul (Str.ofString "V") ((gV x).fmod 2) ++ (Txt.mul (Str.ofString "I") ((gI x).fmod 5) ++ Str.ofString "")))))))

theorem gathered_ok (w : World) (mean : ExcName → Option Value) (mg mb : Str → Option Value) (news : List (Addr × Obj)) (x : Str) (t : Tok) :
  Gl w mean mg mb 1 135 news (x.length ≤ 1000) [Value.str x t] (RetV news fun t => .str (gathered x) t) := by
  dsimp only [Gl, RetV, TopM]
  k_fill
  intro dp un gd cn cs a ccd cl outer A₀ base h₀ L m s Q E B F X N T hk hpre hdp hun hret
  refine wpAny_call ?_
  k_dflt cell_enter
  refine toks_gen ?k1 ?k2
  case k1 =>
    refine Nat.le_trans ?j (Nat.le_add_left _ _)
    with_unfolding_all exact (Nat.le_refl 1)
  intro tk htk
  k_steps
  subst_vars
  exact hret _ _ _ (by assumption) (fun p hp => (by assumption : News h₀ L _ _) p (by (repeat apply List.mem_cons_of_mem); exact hp))
end
section
local macro_rules | `(tactic| walk_at "exec For Tuple Tuple cons nil") => `(tactic| (k_here; (rename Fr _ _ _ _ => lF'); (refine' For_turns (hE := ?hE) (hs := ?hs) lF' ?_); (case hE => k_dflt passes_own); (case hs => k_dflt (intro _; rfl))))
local macro_rules | `(tactic| walk_at "pyIter ref") => `(tactic| (k_here; (with_reducible show wpAny _ _ (pyIter (Value.ref _)) (fun it s₂ => TurnsAt _ _ _ _ _ _ _ _ _ it s₂) _ _); (rename Fr _ _ _ _ => lF'); (rename News _ _ _ _ => lN'); k_dflt (refine' iter_tupTurns (by rfl) lF' lN' (by k_mem) (by rfl) (by rfl) ?_); clear lF'; intro i' l1))
local macro_rules | `(tactic| walk_at "UnrEndW") => `(tactic| (refine unrEndW_one (by assumption) (by assumption) (by assumption) ⟨⟨by k_mem, trivial⟩, ?_⟩))
local macro_rules | `(tactic| walk_at "call builtin:str.replace") => `(tactic| ((with_reducible show wpAny _ _ (call (Value.builtin "str.replace") [Value.str _ _, Value.str _ _, Value.str _ _]) _ _ _); k_dflt (first | (refine repl_step 2 _ (by with_reducible assumption) ?_ ?_ ?_ (by decide +kernel) (by decide +kernel) (by omega) ?_) | (refine repl_step 5 _ (by with_reducible assumption) ?_ ?_ ?_ (by decide +kernel) (by decide +kernel) (by omega) ?_)); k_dflt (show @Ne Nat _ _; omega); k_dflt (show @Ne Nat _ _; omega); k_dflt (show @Ne Nat _ _; omega); intro t' k' hl'))
local macro_rules | `(tactic| walk_at "call builtin:str.count") => `(tactic| ((with_reducible show wpAny _ _ (call (Value.builtin "str.count") [Value.str _ _, Value.str _ _]) _ _ _); refine count_step ?_; intro c' hc' hc0' hc1'))
local macro_rules | `(tactic| walk_at "binaryOp Mod int int") => `(tactic| (k_dflt (refine mod_step (by omega) ?_); intro r' hr' hr0' hr1'))
local macro_rules | `(tactic| walk_at "binaryOp FloorDiv int int") => `(tactic| (k_dflt (refine div_step (by omega) (by omega) (by omega) (by omega) ?_); intro q' hq' hq0' hq1'))
local macro_rules | `(tactic| walk_at "binaryOp Mult str int") => `(tactic| (k_dflt (first | refine mul_step 5 (by decide +kernel) (by omega) (by omega) (by omega) ?_ | refine mul_step 8000 (by decide +kernel) (by omega) (by omega) (by omega) ?_); intro t' k' hl'))
local macro_rules | `(tactic| walk_at "binaryOp Add str str") => `(tactic| (k_dflt (refine add_step (by first | with_reducible assumption | exact len_empty) (by first | with_reducible assumption | exact len_empty) (by omega) ?_); intro t' k' hl'))
local macro_rules | `(tactic| walk_at "execs cons") => `(tactic| (k_here; (refine execs_cons_toks (by first | with_reducible assumption | omega) ?_); intro tk' htk'; try dsimp only))
def seven : List Str := [Str.ofString "M", Str.ofString "D", Str.ofString "C", Str.ofString "L", Str.ofString "X", Str.ofString "V", Str.ofString "I"]
def halfL (c : Str) : Str :=
  if c = Str.ofString "M" then Str.ofString "D" else if c = Str.ofString "D" then Str.ofString "CCL" else if c = Str.ofString "C" then Str.ofString "L" else
  if c = Str.ofString "L" then Str.ofString "XXV" else if c = Str.ofString "X" then Str.ofString "V" else if c = Str.ofString "V" then Str.ofString "II" else Str.ofString ""
theorem halves_at (t0 t1 t2 t3 t4 t5 t6 t7 t8 t9 ta tb tc td : Tok) : ∀ c ∈ seven, ∃ u, valueAt (strPairs [(Value.str (Str.ofString "M") t0, Value.str (Str.ofString "D") t1), (Value.str (Str.ofString "D") t2, Value.str (Str.ofString "CCL") t3),
   (Value.str (Str.ofString "C") t4, Value.str (Str.ofString "L") t5), (Value.str (Str.ofString "L") t6, Value.str (Str.ofString "XXV") t7), (Value.str (Str.ofString "X") t8, Value.str (Str.ofString "V") t9),
   (Value.str (Str.ofString "V") ta, Value.str (Str.ofString "II") tb), (Value.str (Str.ofString "I") tc, Value.str (Str.ofString "") td)]) c = some (.str (halfL c) u) := by
  intro c hc
  simp only [seven, List.mem_cons, List.not_mem_nil, or_false] at hc
  rcases hc with rfl | rfl | rfl | rfl | rfl | rfl | rfl <;> exact ⟨_, rfl⟩
abbrev RetHalves (w : World) (news : List (Addr × Obj)) (h₀ : Heap) (L : Addr) (m : Str → Option Value) (s : Shared) (Q : Value → Shared → Prop) : Prop :=
  ∀ (d : Addr) (o : Obj) (kvs : List (Str × Value)) (h' : Heap) (tk' : Nat), Fr h₀ L h' m → News h₀ L h' ((d, o) :: news) → (∀ p ∈ news, p.1 < d) → o.IsDictOf (PySem.strKind PySem.Challenge.rw_ft0007_01.row.prog w) kvs →
    (∀ c ∈ seven, ∃ u, valueAt kvs c = some (.str (halfL c) u)) → Q (.ref d) { s with heap := h', toks := tk' }
theorem halves_ok (w : World) (mean : ExcName → Option Value) (mg mb : Str → Option Value) (news : List (Addr × Obj)) :
  Gl w mean mg mb 1 121 news True [] (RetHalves w news) := by
  dsimp only [Gl, RetHalves, TopM]
  k_fill
  intro dp un gd cn cs a ccd cl outer A₀ base h₀ L m s Q E B F X N T hk hpre hdp hun hret
  refine wpAny_call ?_
  k_dflt cell_enter
  k_steps
  exact hret _ _ _ _ _ (by assumption) (by assumption) (by assumption) (by assumption) (halves_at _ _ _ _ _ _ _ _ _ _ _ _ _ _)
end
section
local macro_rules | `(tactic| walk_at "exec For Tuple Tuple cons nil") => `(tactic| (k_here; (rename Fr _ _ _ _ => lF'); (refine' For_turns (hE := ?hE) (hs := ?hs) lF' ?_); (case hE => k_dflt passes_own); (case hs => k_dflt (intro _; rfl))))
local macro_rules | `(tactic| walk_at "pyIter ref") => `(tactic| (k_here; (with_reducible show wpAny _ _ (pyIter (Value.ref _)) (fun it s₂ => TurnsAt _ _ _ _ _ _ _ _ _ it s₂) _ _); (rename Fr _ _ _ _ => lF'); (rename News _ _ _ _ => lN'); k_dflt (refine' iter_tupTurns (by rfl) lF' lN' (by k_mem) (by rfl) (by rfl) ?_); clear lF'; intro i' l1))
local macro_rules | `(tactic| walk_at "UnrEndW") => `(tactic| (refine unrEndW_one (by assumption) (by assumption) (by assumption) ⟨⟨by k_mem, trivial⟩, ?_⟩))
local macro_rules | `(tactic| walk_at "call builtin:str.replace") => `(tactic| ((with_reducible show wpAny _ _ (call (Value.builtin "str.replace") [Value.str _ _, Value.str _ _, Value.str _ _]) _ _ _); k_dflt (first | (refine repl_step 2 _ (by with_reducible assumption) ?_ ?_ ?_ (by decide +kernel) (by decide +kernel) (by omega) ?_) | (refine repl_step 5 _ (by with_reducible assumption) ?_ ?_ ?_ (by decide +kernel) (by decide +kernel) (by omega) ?_)); k_dflt (show @Ne Nat _ _; omega); k_dflt (show @Ne Nat _ _; omega); k_dflt (show @Ne Nat _ _; omega); intro t' k' hl'))
local macro_rules | `(tactic| walk_at "call builtin:str.count") => `(tactic| ((with_reducible show wpAny _ _ (call (Value.builtin "str.count") [Value.str _ _, Value.str _ _]) _ _ _); refine count_step ?_; intro c' hc' hc0' hc1'))
local macro_rules | `(tactic| walk_at "binaryOp Mod int int") => `(tactic| (k_dflt (refine mod_step (by omega) ?_); intro r' hr' hr0' hr1'))
local macro_rules | `(tactic| walk_at "binaryOp FloorDiv int int") => `(tactic| (k_dflt (refine div_step (by omega) (by omega) (by omega) (by omega) ?_); intro q' hq' hq0' hq1'))
local macro_rules | `(tactic| walk_at "binaryOp Mult str int") => `(tactic| (k_dflt (first | refine mul_step 5 (by decide +kernel) (by omega) (by omega) (by omega) ?_ | refine mul_step 8000 (by decide +kernel) (by omega) (by omega) (by omega) ?_); intro t' k' hl'))
local macro_rules | `(tactic| walk_at "binaryOp Add str str") => `(tactic| (k_dflt (refine add_step (by first | with_reducible assumption | exact len_empty) (by first | with_reducible assumption | exact len_empty) (by omega) ?_); intro t' k' hl'))
local macro_rules | `(tactic| walk_at "execs cons") => `(tactic| (k_here; (refine execs_cons_toks (by first | with_reducible assumption | omega) ?_); intro tk' htk'; try dsimp only))
local macro_rules | `(tactic| walk_at "call ref") => `(tactic| (k_here; (with_reducible show wpAny _ _ (call (Value.ref 121) _) _ _ _); k_dflt (refine' halves_ok _ _ _ _ _ _ _ _ _ _ _ _ _ _ _ _ _ _ _ _ _ _ ?k1 ?k2 ?k3 ?k4 ?k5 ?kK ?kp ?kd ?ku ?kR); (case k1 => k_dflt k_asm); (case k2 => k_dflt k_asm); (case k3 => k_dflt k_asm); (case k4 => k_dflt k_asm); (case k5 => k_dflt k_asm); (case kK => k_dflt (first | exact rfl | assumption)); (case kp => trivial); (case kd => k_dflt ktr_room); (case ku => k_dflt ktr_units); intro d9 o9 kvs9 h9 tk9 F9 N9 l9 hd9 hat9; (try dsimp only); (try k_fold)))
local macro_rules | `(tactic| walk_at "pyIter str") => `(tactic| ((with_reducible show wpAny _ _ (pyIter (Value.str _ _)) (fun it s₂ => LoopAtV _ _ _ _ _ _ _ _ _ it s₂) _ _); (rename Fr _ _ _ _ => lF'); (rename News _ _ _ _ => lN'); k_dflt (refine' iter_strUnr (by rfl) lF' lN' rfl ?_); clear lF'; intro i' l1'; refine hold_of ?_))
local macro_rules | `(tactic| walk_at "UnrPost") => `(tactic| k_dflt (refine unrPost_hold ?_))
local macro_rules | `(tactic| walk_at "exec For Name Name cons nil") => `(tactic| (k_here; (rename Fr _ _ _ _ => lF'); k_dflt (refine' For_invVF lF' ?k1 ?k2 (hE := ?hE) (hs := ?hs) ?_); (case k1 => k_dflt (exact rfl)); (case k2 => k_dflt (exact rfl)); (case hE => k_dflt passes_own); (case hs => k_dflt (intro _; rfl))))
local macro_rules | `(tactic| walk_at "getItem ref str") => `(tactic| (k_here; (rename (∀ c ∈ seven, ∃ u, valueAt _ c = _) => hat'); (rename _ ∈ seven => hin'); (have hu' := hat' _ hin'); (refine Exists.elim hu' ?_); intro u9 hu9; k_dflt (refine' getItem_made ?k1 ?k2 ?k3 hu9 ?_); (case k1 => k_dflt k_asm); (case k2 => k_dflt k_mem); (case k3 => k_dflt assumption)))
theorem strRest_ind {prog : Program} {w : World} {A : Around} {E : Value → Shared → Prop} {h₀ : Heap} {env : Env} {x : Str} {body : List Stmt} {Q : Flow → Shared → Prop} {s : Shared} {I : Addr} {news : List (Addr × Obj)}
    (P : List Str → (Str → Option Value) → Prop) (hnil : ∀ m, P [] m → StrRest prog w A E h₀ env x body Q s I [] m news)
    (hcons : ∀ c r m, P (c :: r) m → (∀ m', P r m' → StrRest prog w A E h₀ env x body Q s I r m' news) → StrRest prog w A E h₀ env x body Q s I (c :: r) m news) :
    ∀ l m, P l m → StrRest prog w A E h₀ env x body Q s I l m news
  | [], m, h => hnil m h
  | c :: r, m, h => hcons c r m h fun m' h' => strRest_ind P hnil hcons r m' h'
def lettersOf (x : Str) : List Str := x.cps.toList.map (fun c => (⟨#[c]⟩ : Str))
def foldHalf : List Str → Str → Str
  | [], h => h
  | c :: r, h => foldHalf r (h ++ halfL c)
def foldOver : List Str → Int → Int
  | [], o => o
  | c :: r, o => foldOver r (o + (if (Builtin.Str.occurrences (Str.ofString "VI") c 0 (Str.ofString "VI").length 1).isEmpty = true then 0 else 1))
def halvedS (x : Str) : Str := foldHalf (lettersOf x) (Str.ofString "") ++ Txt.mul (Str.ofString "I") ((foldOver (lettersOf x) 0).fdiv 2)
def halvedB (x : Str) : Bool := (foldOver (lettersOf x) 0).fmod 2 == 1
theorem halfL_len (c : Str) : (halfL c).length ≤ 3 := by
  unfold halfL
  repeat' split
  all_goals decide +kernel
abbrev RetHalved (x : Str) (news : List (Addr × Obj)) (h₀ : Heap) (L : Addr) (m : Str → Option Value) (s : Shared) (Q : Value → Shared → Prop) : Prop :=
  ∀ (T : Addr) (u : Tok) (h' : Heap) (tk' : Nat), Fr h₀ L h' m → News h₀ L h' ((T, { cls := .type "tuple", data := .seq #[.str (halvedS x) u, .bool (halvedB x)] }) :: news) → (∀ p ∈ news, p.1 < T) → Q (.ref T) { s with heap := h', toks := tk' }
theorem halved_ok (w : World) (mean : ExcName → Option Value) (mg mb : Str → Option Value) (news : List (Addr × Obj)) (x : Str) (t : Tok) :
  Gl w mean mg mb 2 142 news (x.length ≤ 1300 ∧ ∀ c ∈ lettersOf x, c ∈ seven) [Value.str x t] (RetHalved x news) := by
  dsimp only [Gl, RetHalved, TopM]
  k_fill
  intro dp un gd cn cs a ccd cl outer A₀ base h₀ L m s Q E B F X N T hk hpre hdp hun hret
  obtain ⟨hlen, hsev⟩ := hpre
  refine wpAny_call ?_
  k_dflt cell_enter
  k_steps
  unfold Hold
  refine strRest_ind (fun l m => ∃ (half : Str) (th : Tok) (over : Int) (to : Tok) (B : Nat), m (Str.ofString "half") = some (.str half th) ∧ m (Str.ofString "over") = some (.int over to) ∧ half.length ≤ B ∧ 0 ≤ over ∧ over ≤ (B : Int) ∧ B + 3 * l.length ≤ 5000 ∧
    (∀ c ∈ l, c ∈ seven) ∧ foldHalf l half = foldHalf (lettersOf x) (Str.ofString "") ∧ foldOver l over = foldOver (lettersOf x) 0) ?knil ?kcons _ _ ?kinit
  case kinit => exact ⟨_, _, _, _, 0, rfl, rfl, len_empty, by decide, by decide, by show 0 + 3 * (x.cps.toList.map _).length ≤ 5000; rw [List.length_map, Array.length_toList]; have : x.cps.size ≤ 1300 := hlen; omega, hsev, rfl, rfl⟩
  case kcons =>
    rintro c r m' ⟨half, th, over, to, B, e1, e2, hB, ho0, ho1, hl, hs7, hf1, hf2⟩ ih
    have hin := hs7 c (.head _)
    have hlc := halfL_len c
    refine StrRest.succ (fun u it h' tk' F' N' => ?_)
    have F2 := fr2 F' (n1 := Str.ofString "half") (n2 := Str.ofString "over") (v1 := .str half th) (v2 := .int over to) (by rw [if_neg (by decide +kernel)]; exact e1) (by rw [if_neg (by decide +kernel)]; exact e2)
    clear F'
    k_steps
    all_goals (
      unfold Hold
      refine ⟨_, _, _, _, rfl, by assumption, fun p hp => (by assumption : News _ _ _ _) p (by first | exact hp | exact .tail _ hp | exact .tail _ (.tail _ hp)), fun p hp => Nat.ne_of_lt ((by assumption : ∀ p ∈ _, p.1 < _) p hp), ih _ ⟨_, _, _, _, B + 3, rfl, rfl, ?_, ?_, ?_, ?_, ?_, ?_, ?_⟩⟩)
    all_goals first
      | with_reducible assumption
      | (simp only [List.length_cons] at hl; omega)
      | exact fun c hc => hs7 c (.tail _ hc)
      | exact hf1
      | (rw [← hf2]; simp only [foldOver]; rw [if_pos (by assumption)])
      | (rw [← hf2]; simp only [foldOver]; rw [if_neg (ne_true_of_eq_false (by assumption))])
  case knil =>
    rintro m' ⟨half, th, over, to, B, e1, e2, hB, ho0, ho1, hl, hs7, hf1, hf2⟩
    refine StrRest.zero (fun h' tk' F' N' => ?_)
    have F2 := fr2 F' (n1 := Str.ofString "half") (n2 := Str.ofString "over") (v1 := .str half th) (v2 := .int over to) e1 e2
    clear F'
    have hf1' : half = foldHalf (lettersOf x) (Str.ofString "") := hf1
    have hf2' : over = foldOver (lettersOf x) 0 := hf2
    k_steps
    subst_vars
    exact hret _ _ _ _ (by assumption) (news_drop2 (by assumption)) (by first | assumption | exact ktn_ltOf (And.right (by assumption)) | exact ktn_ltOf (And.right (And.right (by assumption))))
end
section
local macro_rules | `(tactic| walk_at "exec For Tuple Tuple cons nil") => `(tactic| (k_here; (rename Fr _ _ _ _ => lF'); (refine' For_turns (hE := ?hE) (hs := ?hs) lF' ?_); (case hE => k_dflt passes_own); (case hs => k_dflt (intro _; rfl))))
local macro_rules | `(tactic| walk_at "pyIter ref") => `(tactic| (k_here; (with_reducible show wpAny _ _ (pyIter (Value.ref _)) (fun it s₂ => TurnsAt _ _ _ _ _ _ _ _ _ it s₂) _ _); (rename Fr _ _ _ _ => lF'); (rename News _ _ _ _ => lN'); k_dflt (refine' iter_tupTurns (by rfl) lF' lN' (by k_mem) (by rfl) (by rfl) ?_); clear lF'; intro i' l1))
local macro_rules | `(tactic| walk_at "UnrEndW") => `(tactic| (refine unrEndW_one (by assumption) (by assumption) (by assumption) ⟨⟨by k_mem, trivial⟩, ?_⟩))
local macro_rules | `(tactic| walk_at "call builtin:str.replace") => `(tactic| ((with_reducible show wpAny _ _ (call (Value.builtin "str.replace") [Value.str _ _, Value.str _ _, Value.str _ _]) _ _ _); k_dflt (first | (refine repl_step 2 _ (by with_reducible assumption) ?_ ?_ ?_ (by decide +kernel) (by decide +kernel) (by omega) ?_) | (refine repl_step 5 _ (by with_reducible assumption) ?_ ?_ ?_ (by decide +kernel) (by decide +kernel) (by omega) ?_)); k_dflt (show @Ne Nat _ _; omega); k_dflt (show @Ne Nat _ _; omega); k_dflt (show @Ne Nat _ _; omega); intro t' k' hl'))
local macro_rules | `(tactic| walk_at "call builtin:str.count") => `(tactic| ((with_reducible show wpAny _ _ (call (Value.builtin "str.count") [Value.str _ _, Value.str _ _]) _ _ _); refine count_step ?_; intro c' hc' hc0' hc1'))
local macro_rules | `(tactic| walk_at "binaryOp Mod int int") => `(tactic| (k_dflt (refine mod_step (by omega) ?_); intro r' hr' hr0' hr1'))
local macro_rules | `(tactic| walk_at "binaryOp FloorDiv int int") => `(tactic| (k_dflt (refine div_step (by omega) (by omega) (by omega) (by omega) ?_); intro q' hq' hq0' hq1'))
local macro_rules | `(tactic| walk_at "binaryOp Mult str int") => `(tactic| (k_dflt (first | refine mul_step 5 (by decide +kernel) (by omega) (by omega) (by omega) ?_ | refine mul_step 8000 (by decide +kernel) (by omega) (by omega) (by omega) ?_); intro t' k' hl'))
local macro_rules | `(tactic| walk_at "binaryOp Add str str") => `(tactic| (k_dflt (refine add_step (by first | with_reducible assumption | exact len_empty) (by first | with_reducible assumption | exact len_empty) (by omega) ?_); intro t' k' hl'))
local macro_rules | `(tactic| walk_at "execs cons") => `(tactic| (k_here; (refine execs_cons_toks (by first | with_reducible assumption | omega) ?_); intro tk' htk'; try dsimp only))
local macro_rules | `(tactic| walk_at "exec For Tuple Name cons nil") => `(tactic| (k_here; (rename Fr _ _ _ _ => lF'); (refine' For_turns (hE := ?hE) (hs := ?hs) lF' ?_); (case hE => k_dflt passes_own); (case hs => k_dflt (intro _; rfl))))
local macro_rules | `(tactic| walk_at "pyIter ref") => `(tactic| (k_here; (with_reducible show wpAny _ _ (pyIter (Value.ref 113)) (fun it s₂ => TurnsAt _ _ _ _ _ _ _ _ _ it s₂) _ _); (rename Fr _ _ _ _ => lF'); (rename News _ _ _ _ => lN'); k_dflt (refine' iter_listK (by rfl) lF' lN' ?X ?k ?c ?d ?_; (case X => k_asm); (case k => k_is); (case c => exact rfl); (case d => exact rfl)); clear lF'; intro i' l1'; refine hold_of ?_))
local macro_rules | `(tactic| k_mem) => `(tactic| (refine mem_of ?_; with_reducible assumption))
local macro_rules | `(tactic| walk_at "assign Tuple") => `(tactic| (k_here; (with_reducible show wpAny _ _ (assign (Expr.Tuple _ _ _) _ (Value.ref _)) _ _ _); k_dflt (refine' unpackK ?F ?N ?X ?k ?c ?d ?k1 ?k2 ?k3 ?_; (case F => k_asm); (case N => k_asm); (case X => k_asm); (case k => with_reducible assumption); (case c => exact rfl); (case d => exact rfl); (case k1 => exact rfl); (case k2 => exact rfl); (case k3 => exact rfl)); intro h' F' N'; (try k_sweep)))
local macro_rules | `(tactic| walk_at "exec While Compare cons nil") => `(tactic| k_dflt (refine whl_start_hold ?_))
local macro_rules | `(tactic| walk_at "WhlPost") => `(tactic| k_dflt (refine whlPost_hold ?_))
local macro_rules | `(tactic| walk_at "WhlIf") => `(tactic| (refine whlIf_split ?_ ?_ <;> intro hb'))
local macro_rules | `(tactic| walk_at "UnrPostW") => `(tactic| k_dflt (refine unrPostW_hold ?_))
local macro_rules | `(tactic| walk_at "call builtin:list.append") => `(tactic| (k_here; k_dflt (refine' append_own ?k1 ?k2 ?k3 ?k4 ?k5 ?_; (case k1 => k_asm); (case k2 => k_asm); (case k3 => with_reducible assumption); (case k4 => with_reducible assumption); (case k5 => rw [sizeLine_eq]; omega)); intro h' F' N'; (try k_sweep)))
local macro_rules | `(tactic| walk_at "call builtin:str.join") => `(tactic| ((with_reducible show wpAny _ _ (call (Value.builtin "str.join") [Value.str _ _, Value.ref _]) _ _ _); k_dflt (refine' join_own ?k1 ?k2 ?k3 ?k4 ?_; (case k1 => k_asm); (case k2 => with_reducible assumption); (case k3 => with_reducible assumption); (case k4 => omega)); intro t' k'))
theorem upper_ok (w : World) (mean : ExcName → Option Value) (mg mb : Str → Option Value) (news : List (Addr × Obj)) (x dx : Addr) (hs : Int) (kt nt : Tok) (ep : Nat) (n : Int) :
  Gl w mean mg mb 1 77 news (PreObj x dx hs kt nt ep n news) [Value.ref x] (RetV news fun t => .str (upperS n) t) := by
  dsimp only [Gl, RetV, TopM]
  k_fill
  intro dp un gd cn cs a ccd cl outer A₀ base h₀ L m s Q E B F X N T hk hpre hdp hun hret
  obtain ⟨hx, hdx, hn1, hn2⟩ := hpre
  refine wpAny_call ?_
  k_dflt cell_enter
  k_steps
  rename_i I hI
  unfold Hold
  refine itemsRest_ind (fun l m led => ∃ (its : List It) (o : Addr) (k : Int) (kt : Tok) (xs : List Value) (ys : List Str) (ep : Nat), l = its.map (fun i => .val (.ref i.a)) ∧ led = (o, W.listOf xs.toArray ep) :: news ∧ (∀ p ∈ news, p.1 < o) ∧ o < I ∧
    m (Str.ofString "out") = some (.ref o) ∧ m (Str.ofString "n") = some (.int k kt) ∧ 0 ≤ k ∧ (ys.length : Int) + k ≤ 5000 ∧ (∀ i ∈ its, i.Good w) ∧ StrsAre xs ys ∧ (∀ y ∈ ys, y.length ≤ 2) ∧ upS (its.map fun i => (i.v, i.nm)) k ys = upS tabU n []) ?knil ?kcons _ _ _ ?kinit
  case kinit => exact ⟨tabI, _, n, _, [], [], _, rfl, rfl, by first | assumption | exact ktn_ltOf (by assumption), hI _ (.head _), rfl, rfl, by omega, by show (0 : Int) + n ≤ 5000; omega, tabI_good w, .nil, (fun _ h => nomatch h), rfl⟩
  case kcons =>
    rintro c r m' led ⟨its, o, k, kt, xs, ys, ep, e0, e00, hlo, hoI, e1, e2, hk0, hk1, hgood, hst, hy2, hfin⟩ ih
    cases its with
    | nil => exact nomatch e0
    | cons i its =>
    obtain ⟨rfl, rfl⟩ := List.cons.inj e0
    subst e00
    have hgi := hgood i (.head _)
    obtain ⟨hK, hv0, hv1, hnl, hll⟩ := hgi
    refine ItemsRest.val (fun h' tk' F' => ?_)
    refine AllObj.cons (fun o' hc' => ?_)
    refine AllObj.nil (fun N' => ?_)
    have F2 := fr2 F' e1 e2
    clear F'
    k_steps
    unfold Hold
    refine whl_ind3 (by assumption) (by assumption) (fun j m1 led => ∃ (k1 : Int) (kt1 : Tok) (xs1 : List Value) (ys1 : List Str) (ep1 : Nat), led = (I, o') :: (o, W.listOf xs1.toArray ep1) :: news ∧ m1 (Str.ofString "out") = some (.ref o) ∧ m1 (Str.ofString "n") = some (.int k1 kt1) ∧
      m1 (Str.ofString "value") = some (.int i.v i.tv) ∧ m1 (Str.ofString "name") = some (.str i.nm i.tn) ∧ 0 ≤ k1 ∧ (ys1.length : Int) + k1 ≤ 5000 ∧ j = k1.toNat ∧ StrsAre xs1 ys1 ∧ (∀ y ∈ ys1, y.length ≤ 2) ∧
      ys1 ++ List.replicate (k1 / i.v).toNat i.nm = ys ++ List.replicate (k / i.v).toNat i.nm ∧ k1 % i.v = k % i.v) k.toNat ⟨k, _, xs, ys, ep, rfl, rfl, rfl, rfl, rfl, hk0, hk1, rfl, hst, hy2, rfl, rfl⟩ ?_
    rintro j m1 led h1 tk1 ⟨k1, kt1, xs1, ys1, ep1, rfl, f1, f2, f3, f4, hk10, hk11, rfl, hst1, hy21, hx1, hx2⟩ F9 N9 ihw
    have F3 := fr2 (fr2 F9 f3 f4) (n1 := Str.ofString "out") (n2 := Str.ofString "n") (v1 := .ref o) (v2 := .int k1 kt1) (by rw [if_neg (by decide +kernel), if_neg (by decide +kernel)]; exact f1) (by rw [if_neg (by decide +kernel), if_neg (by decide +kernel)]; exact f2)
    clear F9
    have hxl := strsAre_len hst1
    refine whl_turn (by passes_own) ?_
    k_steps
    · have hvk : i.v ≤ k1 := by simpa using (by assumption : decide (i.v ≤ k1) = true)
      unfold Hold
      refine ihw (k1 - i.v).toNat _ _ _ _ (by omega) ⟨k1 - i.v, _, xs1 ++ [.str i.nm i.tn], ys1 ++ [i.nm], ep1 + 1, rfl, rfl, rfl, rfl, rfl, by omega, by rw [List.length_append]; simp only [List.length_cons, List.length_nil]; omega, rfl, hst1.append' (.cons _ _ .nil), ?_, ?_, ?_⟩ (by assumption) (by assumption)
      · intro y hy
        rcases List.mem_append.mp hy with hy | hy
        · exact hy21 y hy
        · rw [List.mem_singleton.mp hy]; assumption
      · rw [← hx1, List.append_assoc, div_step_nat hv0 hvk, List.replicate_succ]; rfl
      · rw [← hx2]; exact Int.sub_emod_right _ _
    · have hvk : k1 < i.v := by simpa using (by assumption : decide (i.v ≤ k1) = false)
      unfold Hold
      refine ⟨_, _, _, _, rfl, by assumption, by assumption, ?_, trivial, ih _ _ ⟨its, o, k1, kt1, xs1, ys1, ep1, rfl, rfl, hlo, hoI, rfl, rfl, hk10, hk11, fun z hz => hgood z (.tail _ hz), hst1, hy21, ?_⟩⟩
      · intro p hp q hq
        rw [List.mem_singleton.mp hq]
        rcases List.mem_cons.mp hp with rfl | hp
        · exact Nat.ne_of_lt hoI
        · exact Nat.ne_of_lt (Nat.lt_trans (hlo p hp) hoI)
      · have e1 : k1 / i.v = 0 := Int.ediv_eq_zero_of_lt hk10 hvk
        have e2 : k1 % i.v = k1 := Int.emod_eq_of_lt hk10 hvk
        rw [e1] at hx1
        rw [e2] at hx2
        have e3 : ys1 = ys ++ List.replicate (k / i.v).toNat i.nm := by rw [← hx1]; simp
        rw [hx2, e3]
        exact hfin
  case knil =>
    rintro m' led ⟨its, o, k, kt, xs, ys, ep, e0, e00, hlo, hoI, e1, e2, hk0, hk1, hgood, hst, hy2, hfin⟩
    cases its with
    | cons i its => exact nomatch e0
    | nil =>
    subst e00
    have hfin' : ys = upS tabU n [] := hfin
    refine ItemsRest.zero (fun h' tk' F' N' => ?_)
    have F2 := fr2 F' e1 e2
    clear F'
    k_steps
    subst hfin'
    exact hret _ _ _ (by assumption) (news_sub (by assumption) fun p hp => .tail _ hp)
end
section
local macro_rules | `(tactic| walk_at "exec For Tuple Tuple cons nil") => `(tactic| (k_here; (rename Fr _ _ _ _ => lF'); (refine' For_turns (hE := ?hE) (hs := ?hs) lF' ?_); (case hE => k_dflt passes_own); (case hs => k_dflt (intro _; rfl))))
local macro_rules | `(tactic| walk_at "pyIter ref") => `(tactic| (k_here; (with_reducible show wpAny _ _ (pyIter (Value.ref _)) (fun it s₂ => TurnsAt _ _ _ _ _ _ _ _ _ it s₂) _ _); (rename Fr _ _ _ _ => lF'); (rename News _ _ _ _ => lN'); k_dflt (refine' iter_tupTurns (by rfl) lF' lN' (by k_mem) (by rfl) (by rfl) ?_); clear lF'; intro i' l1))
local macro_rules | `(tactic| walk_at "UnrEndW") => `(tactic| (refine unrEndW_one (by assumption) (by assumption) (by assumption) ⟨⟨by k_mem, trivial⟩, ?_⟩))
local macro_rules | `(tactic| walk_at "call builtin:str.replace") => `(tactic| ((with_reducible show wpAny _ _ (call (Value.builtin "str.replace") [Value.str _ _, Value.str _ _, Value.str _ _]) _ _ _); k_dflt (first | (refine repl_step 2 _ (by with_reducible assumption) ?_ ?_ ?_ (by decide +kernel) (by decide +kernel) (by omega) ?_) | (refine repl_step 5 _ (by with_reducible assumption) ?_ ?_ ?_ (by decide +kernel) (by decide +kernel) (by omega) ?_)); k_dflt (show @Ne Nat _ _; omega); k_dflt (show @Ne Nat _ _; omega); k_dflt (show @Ne Nat _ _; omega); intro t' k' hl'))
local macro_rules | `(tactic| walk_at "call builtin:str.count") => `(tactic| ((with_reducible show wpAny _ _ (call (Value.builtin "str.count") [Value.str _ _, Value.str _ _]) _ _ _); refine count_step ?_; intro c' hc' hc0' hc1'))
local macro_rules | `(tactic| walk_at "binaryOp Mod int int") => `(tactic| (k_dflt (refine mod_step (by omega) ?_); intro r' hr' hr0' hr1'))
local macro_rules | `(tactic| walk_at "binaryOp FloorDiv int int") => `(tactic| (k_dflt (refine div_step (by omega) (by omega) (by omega) (by omega) ?_); intro q' hq' hq0' hq1'))
local macro_rules | `(tactic| walk_at "binaryOp Mult str int") => `(tactic| (k_dflt (first | refine mul_step 5 (by decide +kernel) (by omega) (by omega) (by omega) ?_ | refine mul_step 8000 (by decide +kernel) (by omega) (by omega) (by omega) ?_); intro t' k' hl'))
local macro_rules | `(tactic| walk_at "binaryOp Add str str") => `(tactic| (k_dflt (refine add_step (by first | with_reducible assumption | exact len_empty) (by first | with_reducible assumption | exact len_empty) (by omega) ?_); intro t' k' hl'))
local macro_rules | `(tactic| walk_at "execs cons") => `(tactic| (k_here; (refine execs_cons_toks (by first | with_reducible assumption | omega) ?_); intro tk' htk'; try dsimp only))
local macro_rules | `(tactic| walk_at "exec For Tuple Name cons nil") => `(tactic| (k_here; (rename Fr _ _ _ _ => lF'); (refine' For_turns (hE := ?hE) (hs := ?hs) lF' ?_); (case hE => k_dflt passes_own); (case hs => k_dflt (intro _; rfl))))
local macro_rules | `(tactic| walk_at "pyIter ref") => `(tactic| (k_here; (with_reducible show wpAny _ _ (pyIter (Value.ref 113)) (fun it s₂ => TurnsAt _ _ _ _ _ _ _ _ _ it s₂) _ _); (rename Fr _ _ _ _ => lF'); (rename News _ _ _ _ => lN'); k_dflt (refine' iter_listK (by rfl) lF' lN' ?X ?k ?c ?d ?_; (case X => k_asm); (case k => k_is); (case c => exact rfl); (case d => exact rfl)); clear lF'; intro i' l1'; refine hold_of ?_))
local macro_rules | `(tactic| k_mem) => `(tactic| (refine mem_of ?_; with_reducible assumption))
local macro_rules | `(tactic| walk_at "assign Tuple") => `(tactic| (k_here; (with_reducible show wpAny _ _ (assign (Expr.Tuple _ _ _) _ (Value.ref _)) _ _ _); k_dflt (refine' unpackK ?F ?N ?X ?k ?c ?d ?k1 ?k2 ?k3 ?_; (case F => k_asm); (case N => k_asm); (case X => k_asm); (case k => with_reducible assumption); (case c => exact rfl); (case d => exact rfl); (case k1 => exact rfl); (case k2 => exact rfl); (case k3 => exact rfl)); intro h' F' N'; (try k_sweep)))
local macro_rules | `(tactic| walk_at "exec While Compare cons nil") => `(tactic| k_dflt (refine whl_start_hold ?_))
local macro_rules | `(tactic| walk_at "WhlPost") => `(tactic| k_dflt (refine whlPost_hold ?_))
local macro_rules | `(tactic| walk_at "WhlIf") => `(tactic| (refine whlIf_split ?_ ?_ <;> intro hb'))
local macro_rules | `(tactic| walk_at "UnrPostW") => `(tactic| k_dflt (refine unrPostW_hold ?_))
local macro_rules | `(tactic| walk_at "call builtin:list.append") => `(tactic| (k_here; k_dflt (refine' append_own ?k1 ?k2 ?k3 ?k4 ?k5 ?_; (case k1 => k_asm); (case k2 => k_asm); (case k3 => with_reducible assumption); (case k4 => with_reducible assumption); (case k5 => rw [sizeLine_eq]; omega)); intro h' F' N'; (try k_sweep)))
local macro_rules | `(tactic| walk_at "call builtin:str.join") => `(tactic| ((with_reducible show wpAny _ _ (call (Value.builtin "str.join") [Value.str _ _, Value.ref _]) _ _ _); k_dflt (refine' join_own ?k1 ?k2 ?k3 ?k4 ?_; (case k1 => k_asm); (case k2 => with_reducible assumption); (case k3 => with_reducible assumption); (case k4 => omega)); intro t' k'))
theorem lower_ok (w : World) (mean : ExcName → Option Value) (mg mb : Str → Option Value) (news : List (Addr × Obj)) (x dx : Addr) (hs : Int) (kt nt : Tok) (ep : Nat) (n : Int) :
  Gl w mean mg mb 1 84 news (PreObj x dx hs kt nt ep n news) [Value.ref x] (RetV news fun t => .str (lowerS n) t) := by
  dsimp only [Gl, RetV, TopM]
  k_fill
  intro dp un gd cn cs a ccd cl outer A₀ base h₀ L m s Q E B F X N T hk hpre hdp hun hret
  obtain ⟨hx, hdx, hn1, hn2⟩ := hpre
  refine wpAny_call ?_
  k_dflt cell_enter
  k_steps
  rename_i I hI
  unfold Hold
  refine itemsRest_ind (fun l m led => ∃ (its : List It) (o : Addr) (k : Int) (kt : Tok) (xs : List Value) (ys : List Str) (ep : Nat), l = its.map (fun i => .val (.ref i.a)) ∧ led = (o, W.listOf xs.toArray ep) :: news ∧ (∀ p ∈ news, p.1 < o) ∧ o < I ∧
    m (Str.ofString "out") = some (.ref o) ∧ m (Str.ofString "n") = some (.int k kt) ∧ 0 ≤ k ∧ (ys.length : Int) + k ≤ 5000 ∧ (∀ i ∈ its, i.Good w) ∧ StrsAre xs ys ∧ (∀ y ∈ ys, y.length ≤ 2) ∧ upS (its.map fun i => (i.v, i.lo)) k ys = upS tabL n []) ?knil ?kcons _ _ _ ?kinit
  case kinit => exact ⟨tabI, _, n, _, [], [], _, rfl, rfl, by first | assumption | exact ktn_ltOf (by assumption), hI _ (.head _), rfl, rfl, by omega, by show (0 : Int) + n ≤ 5000; omega, tabI_good w, .nil, (fun _ h => nomatch h), rfl⟩
  case kcons =>
    rintro c r m' led ⟨its, o, k, kt, xs, ys, ep, e0, e00, hlo, hoI, e1, e2, hk0, hk1, hgood, hst, hy2, hfin⟩ ih
    cases its with
    | nil => exact nomatch e0
    | cons i its =>
    obtain ⟨rfl, rfl⟩ := List.cons.inj e0
    subst e00
    have hgi := hgood i (.head _)
    obtain ⟨hK, hv0, hv1, hnl, hll⟩ := hgi
    refine ItemsRest.val (fun h' tk' F' => ?_)
    refine AllObj.cons (fun o' hc' => ?_)
    refine AllObj.nil (fun N' => ?_)
    have F2 := fr2 F' e1 e2
    clear F'
    k_steps
    unfold Hold
    refine whl_ind3 (by assumption) (by assumption) (fun j m1 led => ∃ (k1 : Int) (kt1 : Tok) (xs1 : List Value) (ys1 : List Str) (ep1 : Nat), led = (I, o') :: (o, W.listOf xs1.toArray ep1) :: news ∧ m1 (Str.ofString "out") = some (.ref o) ∧ m1 (Str.ofString "n") = some (.int k1 kt1) ∧
      m1 (Str.ofString "value") = some (.int i.v i.tv) ∧ m1 (Str.ofString "name") = some (.str i.lo i.tl) ∧ 0 ≤ k1 ∧ (ys1.length : Int) + k1 ≤ 5000 ∧ j = k1.toNat ∧ StrsAre xs1 ys1 ∧ (∀ y ∈ ys1, y.length ≤ 2) ∧
      ys1 ++ List.replicate (k1 / i.v).toNat i.lo = ys ++ List.replicate (k / i.v).toNat i.lo ∧ k1 % i.v = k % i.v) k.toNat ⟨k, _, xs, ys, ep, rfl, rfl, rfl, rfl, rfl, hk0, hk1, rfl, hst, hy2, rfl, rfl⟩ ?_
    rintro j m1 led h1 tk1 ⟨k1, kt1, xs1, ys1, ep1, rfl, f1, f2, f3, f4, hk10, hk11, rfl, hst1, hy21, hx1, hx2⟩ F9 N9 ihw
    have F3 := fr2 (fr2 F9 f3 f4) (n1 := Str.ofString "out") (n2 := Str.ofString "n") (v1 := .ref o) (v2 := .int k1 kt1) (by rw [if_neg (by decide +kernel), if_neg (by decide +kernel)]; exact f1) (by rw [if_neg (by decide +kernel), if_neg (by decide +kernel)]; exact f2)
    clear F9
    have hxl := strsAre_len hst1
    refine whl_turn (by passes_own) ?_
    k_steps
    · have hvk : i.v ≤ k1 := by simpa using (by assumption : decide (i.v ≤ k1) = true)
      unfold Hold
      refine ihw (k1 - i.v).toNat _ _ _ _ (by omega) ⟨k1 - i.v, _, xs1 ++ [.str i.lo i.tl], ys1 ++ [i.lo], ep1 + 1, rfl, rfl, rfl, rfl, rfl, by omega, by rw [List.length_append]; simp only [List.length_cons, List.length_nil]; omega, rfl, hst1.append' (.cons _ _ .nil), ?_, ?_, ?_⟩ (by assumption) (by assumption)
      · intro y hy
        rcases List.mem_append.mp hy with hy | hy
        · exact hy21 y hy
        · rw [List.mem_singleton.mp hy]; assumption
      · rw [← hx1, List.append_assoc, div_step_nat hv0 hvk, List.replicate_succ]; rfl
      · rw [← hx2]; exact Int.sub_emod_right _ _
    · have hvk : k1 < i.v := by simpa using (by assumption : decide (i.v ≤ k1) = false)
      unfold Hold
      refine ⟨_, _, _, _, rfl, by assumption, by assumption, ?_, trivial, ih _ _ ⟨its, o, k1, kt1, xs1, ys1, ep1, rfl, rfl, hlo, hoI, rfl, rfl, hk10, hk11, fun z hz => hgood z (.tail _ hz), hst1, hy21, ?_⟩⟩
      · intro p hp q hq
        rw [List.mem_singleton.mp hq]
        rcases List.mem_cons.mp hp with rfl | hp
        · exact Nat.ne_of_lt hoI
        · exact Nat.ne_of_lt (Nat.lt_trans (hlo p hp) hoI)
      · have e1 : k1 / i.v = 0 := Int.ediv_eq_zero_of_lt hk10 hvk
        have e2 : k1 % i.v = k1 := Int.emod_eq_of_lt hk10 hvk
        rw [e1] at hx1
        rw [e2] at hx2
        have e3 : ys1 = ys ++ List.replicate (k / i.v).toNat i.lo := by rw [← hx1]; simp
        rw [hx2, e3]
        exact hfin
  case knil =>
    rintro m' led ⟨its, o, k, kt, xs, ys, ep, e0, e00, hlo, hoI, e1, e2, hk0, hk1, hgood, hst, hy2, hfin⟩
    cases its with
    | cons i its => exact nomatch e0
    | nil =>
    subst e00
    have hfin' : ys = upS tabL n [] := hfin
    refine ItemsRest.zero (fun h' tk' F' N' => ?_)
    have F2 := fr2 F' e1 e2
    clear F'
    k_steps
    subst hfin'
    exact hret _ _ _ (by assumption) (news_sub (by assumption) fun p hp => .tail _ hp)
end
section
local macro_rules | `(tactic| walk_at "exec For Tuple Tuple cons nil") => `(tactic| (k_here; (rename Fr _ _ _ _ => lF'); (refine' For_turns (hE := ?hE) (hs := ?hs) lF' ?_); (case hE => k_dflt passes_own); (case hs => k_dflt (intro _; rfl))))
local macro_rules | `(tactic| walk_at "pyIter ref") => `(tactic| (k_here; (with_reducible show wpAny _ _ (pyIter (Value.ref _)) (fun it s₂ => TurnsAt _ _ _ _ _ _ _ _ _ it s₂) _ _); (rename Fr _ _ _ _ => lF'); (rename News _ _ _ _ => lN'); k_dflt (refine' iter_tupTurns (by rfl) lF' lN' (by k_mem) (by rfl) (by rfl) ?_); clear lF'; intro i' l1))
local macro_rules | `(tactic| walk_at "UnrEndW") => `(tactic| (refine unrEndW_one (by assumption) (by assumption) (by assumption) ⟨⟨by k_mem, trivial⟩, ?_⟩))
local macro_rules | `(tactic| walk_at "call builtin:str.replace") => `(tactic| ((with_reducible show wpAny _ _ (call (Value.builtin "str.replace") [Value.str _ _, Value.str _ _, Value.str _ _]) _ _ _); k_dflt (first | (refine repl_step 2 _ (by with_reducible assumption) ?_ ?_ ?_ (by decide +kernel) (by decide +kernel) (by omega) ?_) | (refine repl_step 5 _ (by with_reducible assumption) ?_ ?_ ?_ (by decide +kernel) (by decide +kernel) (by omega) ?_)); k_dflt (show @Ne Nat _ _; omega); k_dflt (show @Ne Nat _ _; omega); k_dflt (show @Ne Nat _ _; omega); intro t' k' hl'))
local macro_rules | `(tactic| walk_at "call builtin:str.count") => `(tactic| ((with_reducible show wpAny _ _ (call (Value.builtin "str.count") [Value.str _ _, Value.str _ _]) _ _ _); refine count_step ?_; intro c' hc' hc0' hc1'))
local macro_rules | `(tactic| walk_at "binaryOp Mod int int") => `(tactic| (k_dflt (refine mod_step (by omega) ?_); intro r' hr' hr0' hr1'))
local macro_rules | `(tactic| walk_at "binaryOp FloorDiv int int") => `(tactic| (k_dflt (refine div_step (by omega) (by omega) (by omega) (by omega) ?_); intro q' hq' hq0' hq1'))
local macro_rules | `(tactic| walk_at "binaryOp Mult str int") => `(tactic| (k_dflt (first | refine mul_step 5 (by decide +kernel) (by omega) (by omega) (by omega) ?_ | refine mul_step 8000 (by decide +kernel) (by omega) (by omega) (by omega) ?_); intro t' k' hl'))
local macro_rules | `(tactic| walk_at "binaryOp Add str str") => `(tactic| (k_dflt (refine add_step (by first | with_reducible assumption | exact len_empty) (by first | with_reducible assumption | exact len_empty) (by omega) ?_); intro t' k' hl'))
local macro_rules | `(tactic| walk_at "execs cons") => `(tactic| (k_here; (refine execs_cons_toks (by first | with_reducible assumption | omega) ?_); intro tk' htk'; try dsimp only))
local macro_rules | `(tactic| k_all) => `(tactic| exact ne_all (by with_reducible assumption))
local macro_rules | `(tactic| k_mem) => `(tactic| (refine mem_of ?_; with_reducible assumption))
abbrev RetObj (n : Int) (news : List (Addr × Obj)) (h₀ : Heap) (L : Addr) (m : Str → Option Value) (s : Shared) (Q : Value → Shared → Prop) : Prop :=
  ∀ (x dx : Addr) (hs : Int) (kt nt : Tok) (ep : Nat) (h' : Heap) (tk' : Nat), Fr h₀ L h' m → News h₀ L h' ((x, instObj 95 dx) :: (dx, dictOf [⟨hs, .str (Str.ofString "_value") kt, .int n nt⟩] ep) :: news) → (∀ p ∈ news, p.1 < dx) → dx < x →
    Q (.ref x) { s with heap := h', toks := tk' }
theorem make_ok (w : World) (mean : ExcName → Option Value) (mg mb : Str → Option Value) (news : List (Addr × Obj)) (n : Int) (t : Tok) :
  Gl w mean mg mb 2 95 news (1 ≤ n ∧ n ≤ 4999) [Value.int n t] (RetObj n news) := by
  dsimp only [Gl, RetObj, TopM]
  k_fill
  intro dp un gd cn cs a ccd cl outer A₀ base h₀ L m s Q E B F X N T hk hpre hdp hun hret
  obtain ⟨hn1, hn2⟩ := hpre
  k_dflt (refine' call_cls ?k1 ?k2 ?k3 ?k4 ?k5 ?k6 ?_; (case k1 => k_asm); (case k2 => k_asm); (case k3 => k_asm); (case k4 => k_is); (case k5 => k_is); (case k6 => k_is))
  intro x' d' h' F' N' l1 l2
  k_lt2 l2
  k_dflt cell_enter
  k_steps
  exact hret _ _ _ _ _ _ _ _ (by assumption) (by assumption) (by assumption) (by assumption)
end
section
local macro_rules | `(tactic| walk_at "exec For Tuple Tuple cons nil") => `(tactic| (k_here; (rename Fr _ _ _ _ => lF'); (refine' For_turns (hE := ?hE) (hs := ?hs) lF' ?_); (case hE => k_dflt passes_own); (case hs => k_dflt (intro _; rfl))))
local macro_rules | `(tactic| walk_at "pyIter ref") => `(tactic| (k_here; (with_reducible show wpAny _ _ (pyIter (Value.ref _)) (fun it s₂ => TurnsAt _ _ _ _ _ _ _ _ _ it s₂) _ _); (rename Fr _ _ _ _ => lF'); (rename News _ _ _ _ => lN'); k_dflt (refine' iter_tupTurns (by rfl) lF' lN' (by k_mem) (by rfl) (by rfl) ?_); clear lF'; intro i' l1))
local macro_rules | `(tactic| walk_at "UnrEndW") => `(tactic| (refine unrEndW_one (by assumption) (by assumption) (by assumption) ⟨⟨by k_mem, trivial⟩, ?_⟩))
local macro_rules | `(tactic| walk_at "call builtin:str.replace") => `(tactic| ((with_reducible show wpAny _ _ (call (Value.builtin "str.replace") [Value.str _ _, Value.str _ _, Value.str _ _]) _ _ _); k_dflt (first | (refine repl_step 2 _ (by with_reducible assumption) ?_ ?_ ?_ (by decide +kernel) (by decide +kernel) (by omega) ?_) | (refine repl_step 5 _ (by with_reducible assumption) ?_ ?_ ?_ (by decide +kernel) (by decide +kernel) (by omega) ?_)); k_dflt (show @Ne Nat _ _; omega); k_dflt (show @Ne Nat _ _; omega); k_dflt (show @Ne Nat _ _; omega); intro t' k' hl'))
local macro_rules | `(tactic| walk_at "call builtin:str.count") => `(tactic| ((with_reducible show wpAny _ _ (call (Value.builtin "str.count") [Value.str _ _, Value.str _ _]) _ _ _); refine count_step ?_; intro c' hc' hc0' hc1'))
local macro_rules | `(tactic| walk_at "binaryOp Mod int int") => `(tactic| (k_dflt (refine mod_step (by omega) ?_); intro r' hr' hr0' hr1'))
local macro_rules | `(tactic| walk_at "binaryOp FloorDiv int int") => `(tactic| (k_dflt (refine div_step (by omega) (by omega) (by omega) (by omega) ?_); intro q' hq' hq0' hq1'))
local macro_rules | `(tactic| walk_at "binaryOp Mult str int") => `(tactic| (k_dflt (first | refine mul_step 5 (by decide +kernel) (by omega) (by omega) (by omega) ?_ | refine mul_step 8000 (by decide +kernel) (by omega) (by omega) (by omega) ?_); intro t' k' hl'))
local macro_rules | `(tactic| walk_at "binaryOp Add str str") => `(tactic| (k_dflt (refine add_step (by first | with_reducible assumption | exact len_empty) (by first | with_reducible assumption | exact len_empty) (by omega) ?_); intro t' k' hl'))
local macro_rules | `(tactic| walk_at "execs cons") => `(tactic| (k_here; (refine execs_cons_toks (by first | with_reducible assumption | omega) ?_); intro tk' htk'; try dsimp only))
local macro_rules | `(tactic| k_all) => `(tactic| exact ne_all (by with_reducible assumption))
local macro_rules | `(tactic| k_mem) => `(tactic| (refine mem_of ?_; with_reducible assumption))
local macro_rules | `(tactic| walk_at "getMethod str") => `(tactic| (with_reducible refine encode_meth ?_))
local macro_rules | `(tactic| walk_at "call builtin:str.encode") => `(tactic| (k_dflt (refine encode_step (by omega) (by omega) (by with_reducible assumption) ?_)))
local macro_rules | `(tactic| walk_at "pyIter bytes") => `(tactic| (k_here; k_dflt (refine' comp_roman ?k1 ?k2 ?k3 ?k4 ?k5 ?k6 ?k7 ?_; (case k1 => k_asm); (case k2 => k_asm); (case k3 => exact rfl); (case k4 => with_reducible assumption); (case k5 => with_reducible assumption); (case k6 => exact rfl); (case k7 => (intro C; exact rfl))); intro D' ys' ep' h' tk' k' F' N' hb'))
local macro_rules | `(tactic| walk_at "call builtin:all") => `(tactic| (k_here; k_dflt (refine' all_own ?k1 ?k2 ?k3 ?k4 ?_; (case k1 => k_asm); (case k2 => k_asm); (case k3 => exact rfl); (case k4 => with_reducible assumption)); intro h' tk' F' N'))
local macro_rules | `(tactic| walk_at "UnrPost next") => `(tactic| k_dflt (refine unrPost_hold ?_))
local macro_rules | `(tactic| walk_at "subscriptTail Name Slice bytes ref") => `(tactic| (k_here; (with_reducible show wpAny _ _ (subscriptTail _ (Expr.Slice _ _ none _) (Value.bytes _ _) (Value.ref _)) _ _ _); (rename Fr _ _ _ _ => lF'); (rename News _ _ _ _ => lN'); k_dflt (first | refine' slice_cut (s := ⟨_, _, _, _, _⟩) 1 lF' lN' ?k1 ?k2 ?k3 ?_ ?k4 ?k5; (case k2 => exact rfl) | refine' slice_cut (s := ⟨_, _, _, _, _⟩) 2 lF' lN' ?k1 ?k2 ?k3 ?_ ?k4 ?k5; (case k2 => exact rfl)); (case k1 => omega); (case k3 => with_reducible assumption); (case k4 => k_dflt (exact rfl)); (case k5 => k_dflt (intro _; rfl)); intro h' t' k' F' N'))
local macro_rules | `(tactic| walk_at "compareOp Eq bytes bytes") => `(tactic| (k_dflt (refine eq_cut ?_)))
local macro_rules | `(tactic| walk_at "exec For Name Call cons nil") => `(tactic| (rename StopIf => hs'; refine hold_of ?_))
local macro_rules | `(tactic| walk_at "exec If Compare cons cons") => `(tactic| (rename StopIf => hs'; refine hold_of ?_))
local macro_rules | `(tactic| walk_at "pyIter ref") => `(tactic| (k_here; (with_reducible show wpAny _ _ (pyIter (Value.ref _)) (fun it s₂ => LoopAtV _ _ _ _ _ _ _ _ _ it s₂) _ _); (rename Fr _ _ _ _ => lF'); (rename News _ _ _ _ => lN'); (rename IsRange _ _ _ _ _ _ _ _ => lR'); k_dflt (first | refine' iter_rangeUnr (n := 3) (by rfl) lR' (by decide) (by decide) lF' lN' ?_ | refine' iter_rangeUnr (n := 4) (by rfl) lR' (by decide) (by decide) lF' lN' ?_); clear lF'; intro i' l1'; refine hold_of ?_))
local macro_rules | `(tactic| walk_at "ite") => `(tactic| (k_dflt (first | refine ite_p (by decide) ?_ | refine ite_n (by decide) ?_)))
local macro_rules | `(tactic| walk_at "exec If BoolOp cons cons") => `(tactic| (rename StopIf => hs'; refine hold_of ?_))
local macro_rules | `(tactic| walk_at "call ref") => `(tactic| ((with_reducible show wpAny _ _ (call (Value.ref 95) _) _ _ _); refine hold_of ?_))
local macro_rules | `(tactic| ktn_open) => `(tactic| (k_dflt (refine' make_ok _ _ _ _ _ _ _ _ _ _ _ _ _ _ _ _ _ _ _ _ _ _ _ _ ?k1 ?k2 ?k3 ?k4 ?k5 ?kK ?kp ?kd ?ku ?_; (case k1 => k_asm); (case k2 => k_asm); (case k3 => k_asm); (case k4 => k_asm); (case k5 => k_asm); (case kK => exact rfl); (case kp => exact And.intro (by assumption) (by assumption)); (case kd => ktr_room); (case ku => ktr_units)); intro x9 dx9 hs9 kt9 nt9 ep9 h9 tk9 F9 N9 l9 l9'; dsimp only))
def FromPre (x : Str) (B : Array UInt8) (n : Int) : Prop :=
  x.length ≤ 20 ∧ 1 ≤ x.length ∧ 1 ≤ n ∧ n ≤ 4999 ∧ Txt.isascii x = true ∧ ((Txt.isupper x = true ∧ (∀ c ∈ x.cps.toList, c < 128) ∧ asBytes x = B) ∨
    (Txt.isupper x = false ∧ Txt.islower x = true ∧ 1 ≤ (Txt.upper x).length ∧ (Txt.upper x).length ≤ 1000 ∧ (∀ c ∈ (Txt.upper x).cps.toList, c < 128) ∧ asBytes (Txt.upper x) = B)) ∧
  (∀ c ∈ B.toList, roman7.contains c = true) ∧ B.size ≤ 1000 ∧ parse0 B n
theorem from_ok (w : World) (mean : ExcName → Option Value) (mg mb : Str → Option Value) (news : List (Addr × Obj)) (x : Str) (t : Tok) (n : Int) (B : Array UInt8) :
  GlC w mean mg mb 3 89 news (FromPre x B n) [Value.ref 95, Value.str x t] (RetObj n news) := by
  dsimp only [GlC, RetObj, TopM]
  k_fill
  intro dp un gd cn cs a ccd cl outer A₀ base h₀ L m s Q E B0 F X N T hk hpre hdp hun hret
  obtain ⟨hx1, hx2, hn1, hn2, hia, hcase, hr7, hbz, hparse⟩ := hpre
  k_dflt cell_enter
  have hx3 : (((x.length : Nat) : Int) != 0) = true := by simp; omega
  have hstop : StopIf := ⟨⟩
  k_steps
  refine hold_mk ?_
  refine cut_fr (by assumption) (by assumption) (fun m' => ∃ tb, m' (Str.ofString "chars") = some (.bytes B tb) ∧ m' (Str.ofString "cls") = some (.ref 95)) ?_ ?_
  · (rename StopIf => hst; clear hst)
    rcases hcase with ⟨hup, hasc, hxB⟩ | ⟨hup, hlow, hu1, hu2, hasc, hxB⟩
    · k_steps
      refine hold_mk ?_
      subst hxB
      exact ⟨rfl, _, _, _, rfl, by assumption, by assumption, _, rfl, rfl⟩
    · k_steps
      refine hold_mk ?_
      subst hxB
      exact ⟨rfl, _, _, _, rfl, by assumption, by assumption, _, rfl, rfl⟩
  · rintro h1 tk1 m1 ⟨tb, e1, e2⟩ F1 N1
    have F2 := fr2 F1 e1 e2
    clear F1
    k_steps
    refine hold_mk ?_
    refine cut_fr (by assumption) (by assumption) (fun m' => ∃ tb ti tr ii rr, m' (Str.ofString "chars") = some (.bytes B tb) ∧ m' (Str.ofString "cls") = some (.ref 95) ∧ m' (Str.ofString "idx") = some (.int ii ti) ∧ m' (Str.ofString "result") = some (.int rr tr) ∧ 0 ≤ ii ∧ (ii, rr) = loopB B 77 1000 4 0 0) ?_ ?_
    · (rename StopIf => hst; clear hst)
      k_steps
      rename_i I hI
      refine hold_mk ?_
      refine rangeRest_ind (fun k m' => ∃ tb ti tr ii rr, m' (Str.ofString "chars") = some (.bytes B tb) ∧ m' (Str.ofString "cls") = some (.ref 95) ∧ m' (Str.ofString "idx") = some (.int ii ti) ∧ m' (Str.ofString "result") = some (.int rr tr) ∧ 0 ≤ ii ∧ loopB B 77 1000 k ii rr = loopB B 77 1000 4 0 0) ?hz ?hs _ _ _ ⟨_, _, _, _, _, rfl, rfl, rfl, rfl, by omega, rfl⟩
      case hz =>
        rintro j m' ⟨tb, ti, tr, ii, rr, e1, e2, e3, e4, hii, hfin⟩
        refine RangeRest.zero (fun h' tk' F' N' => ?_)
        k_steps
        refine hold_mk ?_
        refine ⟨rfl, _, _, _, rfl, F', news_sub N' (fun p hp => by first | exact hp | exact .tail _ hp | exact .tail _ (.tail _ hp) | exact .tail _ (.tail _ (.tail _ hp))), tb, ti, tr, ii, rr, e1, e2, e3, e4, hii, ?_⟩
        exact hfin
      case hs =>
        rintro k j m' ⟨tb, ti, tr, ii, rr, e1, e2, e3, e4, hii, hfin⟩ ih
        refine RangeRest.succ (fun t' h' tk' F' N' => ?_)
        have F2 := fr4 F' (n1 := Str.ofString "chars") (n2 := Str.ofString "cls") (n3 := Str.ofString "idx") (n4 := Str.ofString "result") (v1 := .bytes B tb) (v2 := .ref 95) (v3 := .int ii ti) (v4 := .int rr tr) (by rw [if_neg (by decide +kernel)]; exact e1) (by rw [if_neg (by decide +kernel)]; exact e2) (by rw [if_neg (by decide +kernel)]; exact e3) (by rw [if_neg (by decide +kernel)]; exact e4)
        clear F'
        k_steps
        · have hb := (by assumption : (cutL B ii.toNat 1 == [77]) = true)
          refine hold_mk ?_
          refine unrEnd_one (by assumption) (by assumption) (by assumption) (ih _ ⟨_, _, _, _, _, rfl, rfl, rfl, rfl, by omega, ?_⟩)
          rw [← hfin, loopB, if_pos hb]
        · have hb := (by assumption : (cutL B ii.toNat 1 == [77]) = false)
          rw [loopB, if_neg (ne_true_of_eq_false hb)] at hfin
          refine hold_mk ?_
          refine ⟨rfl, _, _, _, rfl, by assumption, news_sub (by assumption) (fun p hp => by first | exact hp | exact .tail _ hp | exact .tail _ (.tail _ hp) | exact .tail _ (.tail _ (.tail _ hp))), _, _, _, ii, rr, rfl, rfl, rfl, rfl, hii, ?_⟩
          exact hfin

    · rintro h1 tk1 m1 ⟨tb, ti, tr, i, r, e1, e2, e3, e4, hi, hir⟩ F1 N1
      have F2 := fr4 F1 e1 e2 e3 e4
      clear F1
      unfold parse0 at hparse
      rw [← hir] at hparse
      dsimp only at hparse
      clear hir
      k_steps
      · have hb := (by assumption : ((B.size : Nat) : Int) = i)
        rw [if_pos hb] at hparse
        refine hold_mk ?_
        have hn : n = r := hparse
        subst hn
        ktn_open
        k_steps
        all_goals exact hret _ _ _ _ _ _ _ _ (by assumption) (by assumption) (by assumption) (by assumption)
      · have hb := (by assumption : ¬ ((B.size : Nat) : Int) = i)
        rw [if_neg hb] at hparse
        refine hold_mk ?_
        refine cut_fr (by assumption) (by assumption) (fun m' => ∃ tb ti tr ii rr, m' (Str.ofString "chars") = some (.bytes B tb) ∧ m' (Str.ofString "cls") = some (.ref 95) ∧ m' (Str.ofString "idx") = some (.int ii ti) ∧ m' (Str.ofString "result") = some (.int rr tr) ∧ 0 ≤ ii ∧ (ii, rr) = blockH B i r) ?_ ?_
        · (rename StopIf => hst; clear hst)
          k_steps
          · refine hold_mk ?_
            exact ⟨rfl, _, _, _, rfl, by assumption, news_sub (by assumption) (fun p hp => by first | exact hp | exact .tail _ hp | exact .tail _ (.tail _ hp) | exact .tail _ (.tail _ (.tail _ hp))), _, _, _, _, _, rfl, rfl, rfl, rfl, by omega, by rw [blockH, blockB, if_pos (by assumption)]⟩
          · refine hold_mk ?_
            exact ⟨rfl, _, _, _, rfl, by assumption, news_sub (by assumption) (fun p hp => by first | exact hp | exact .tail _ hp | exact .tail _ (.tail _ hp) | exact .tail _ (.tail _ (.tail _ hp))), _, _, _, _, _, rfl, rfl, rfl, rfl, by omega, by rw [blockH, blockB, if_neg (ne_true_of_eq_false (by assumption)), if_pos (by assumption)]⟩
          · have hb9 := (by assumption : (cutL B i.toNat 2 == [67, 77]) = false)
            have hb4 := (by assumption : (cutL B i.toNat 2 == [67, 68]) = false)
            have hb5 := (by assumption : (cutL B i.toNat 1 == [68]) = true)
            have hbl : blockH B i r = loopB B 67 100 3 (i + 1) (r + 500) := by rw [blockH, blockB, if_neg (ne_true_of_eq_false hb9), if_neg (ne_true_of_eq_false hb4), if_pos hb5]
            rename_i I hI
            refine hold_mk ?_
            refine rangeRest_ind (fun k m' => ∃ tb ti tr ii rr, m' (Str.ofString "chars") = some (.bytes B tb) ∧ m' (Str.ofString "cls") = some (.ref 95) ∧ m' (Str.ofString "idx") = some (.int ii ti) ∧ m' (Str.ofString "result") = some (.int rr tr) ∧ 0 ≤ ii ∧ loopB B 67 100 k ii rr = loopB B 67 100 3 (i + 1) (r + 500)) ?hz ?hs _ _ _ ⟨_, _, _, _, _, rfl, rfl, rfl, rfl, by omega, rfl⟩
            case hz =>
              rintro j m' ⟨tb, ti, tr, ii, rr, e1, e2, e3, e4, hii, hfin⟩
              refine RangeRest.zero (fun h' tk' F' N' => ?_)
              k_steps
              refine hold_mk ?_
              refine ⟨rfl, _, _, _, rfl, F', news_sub N' (fun p hp => by first | exact hp | exact .tail _ hp | exact .tail _ (.tail _ hp) | exact .tail _ (.tail _ (.tail _ hp))), tb, ti, tr, ii, rr, e1, e2, e3, e4, hii, ?_⟩
              rw [hbl]; exact hfin
            case hs =>
              rintro k j m' ⟨tb, ti, tr, ii, rr, e1, e2, e3, e4, hii, hfin⟩ ih
              refine RangeRest.succ (fun t' h' tk' F' N' => ?_)
              have F2 := fr4 F' (n1 := Str.ofString "chars") (n2 := Str.ofString "cls") (n3 := Str.ofString "idx") (n4 := Str.ofString "result") (v1 := .bytes B tb) (v2 := .ref 95) (v3 := .int ii ti) (v4 := .int rr tr) (by rw [if_neg (by decide +kernel)]; exact e1) (by rw [if_neg (by decide +kernel)]; exact e2) (by rw [if_neg (by decide +kernel)]; exact e3) (by rw [if_neg (by decide +kernel)]; exact e4)
              clear F'
              k_steps
              · have hb := (by assumption : (cutL B ii.toNat 1 == [67]) = true)
                refine hold_mk ?_
                refine unrEnd_one (by assumption) (by assumption) (by assumption) (ih _ ⟨_, _, _, _, _, rfl, rfl, rfl, rfl, by omega, ?_⟩)
                rw [← hfin, loopB, if_pos hb]
              · have hb := (by assumption : (cutL B ii.toNat 1 == [67]) = false)
                rw [loopB, if_neg (ne_true_of_eq_false hb)] at hfin
                refine hold_mk ?_
                refine ⟨rfl, _, _, _, rfl, by assumption, news_sub (by assumption) (fun p hp => by first | exact hp | exact .tail _ hp | exact .tail _ (.tail _ hp) | exact .tail _ (.tail _ (.tail _ hp))), _, _, _, ii, rr, rfl, rfl, rfl, rfl, hii, ?_⟩
                rw [hbl]; exact hfin

          · have hb9 := (by assumption : (cutL B i.toNat 2 == [67, 77]) = false)
            have hb4 := (by assumption : (cutL B i.toNat 2 == [67, 68]) = false)
            have hb5 := (by assumption : (cutL B i.toNat 1 == [68]) = false)
            have hbl : blockH B i r = loopB B 67 100 3 i r := by rw [blockH, blockB, if_neg (ne_true_of_eq_false hb9), if_neg (ne_true_of_eq_false hb4), if_neg (ne_true_of_eq_false hb5)]
            rename_i I hI
            refine hold_mk ?_
            refine rangeRest_ind (fun k m' => ∃ tb ti tr ii rr, m' (Str.ofString "chars") = some (.bytes B tb) ∧ m' (Str.ofString "cls") = some (.ref 95) ∧ m' (Str.ofString "idx") = some (.int ii ti) ∧ m' (Str.ofString "result") = some (.int rr tr) ∧ 0 ≤ ii ∧ loopB B 67 100 k ii rr = loopB B 67 100 3 i r) ?hz ?hs _ _ _ ⟨_, _, _, _, _, rfl, rfl, rfl, rfl, by omega, rfl⟩
            case hz =>
              rintro j m' ⟨tb, ti, tr, ii, rr, e1, e2, e3, e4, hii, hfin⟩
              refine RangeRest.zero (fun h' tk' F' N' => ?_)
              k_steps
              refine hold_mk ?_
              refine ⟨rfl, _, _, _, rfl, F', news_sub N' (fun p hp => by first | exact hp | exact .tail _ hp | exact .tail _ (.tail _ hp) | exact .tail _ (.tail _ (.tail _ hp))), tb, ti, tr, ii, rr, e1, e2, e3, e4, hii, ?_⟩
              rw [hbl]; exact hfin
            case hs =>
              rintro k j m' ⟨tb, ti, tr, ii, rr, e1, e2, e3, e4, hii, hfin⟩ ih
              refine RangeRest.succ (fun t' h' tk' F' N' => ?_)
              have F2 := fr4 F' (n1 := Str.ofString "chars") (n2 := Str.ofString "cls") (n3 := Str.ofString "idx") (n4 := Str.ofString "result") (v1 := .bytes B tb) (v2 := .ref 95) (v3 := .int ii ti) (v4 := .int rr tr) (by rw [if_neg (by decide +kernel)]; exact e1) (by rw [if_neg (by decide +kernel)]; exact e2) (by rw [if_neg (by decide +kernel)]; exact e3) (by rw [if_neg (by decide +kernel)]; exact e4)
              clear F'
              k_steps
              · have hb := (by assumption : (cutL B ii.toNat 1 == [67]) = true)
                refine hold_mk ?_
                refine unrEnd_one (by assumption) (by assumption) (by assumption) (ih _ ⟨_, _, _, _, _, rfl, rfl, rfl, rfl, by omega, ?_⟩)
                rw [← hfin, loopB, if_pos hb]
              · have hb := (by assumption : (cutL B ii.toNat 1 == [67]) = false)
                rw [loopB, if_neg (ne_true_of_eq_false hb)] at hfin
                refine hold_mk ?_
                refine ⟨rfl, _, _, _, rfl, by assumption, news_sub (by assumption) (fun p hp => by first | exact hp | exact .tail _ hp | exact .tail _ (.tail _ hp) | exact .tail _ (.tail _ (.tail _ hp))), _, _, _, ii, rr, rfl, rfl, rfl, rfl, hii, ?_⟩
                rw [hbl]; exact hfin

        · rintro h1 tk1 m1 ⟨tb, ti, tr, i, r, e1, e2, e3, e4, hi, hir⟩ F1 N1
          have F2 := fr4 F1 e1 e2 e3 e4
          clear F1
          unfold parse1 at hparse
          rw [← hir] at hparse
          dsimp only at hparse
          clear hir
          k_steps
          · have hb := (by assumption : ((B.size : Nat) : Int) = i)
            rw [if_pos hb] at hparse
            refine hold_mk ?_
            have hn : n = r := hparse
            subst hn
            ktn_open
            k_steps
            all_goals exact hret _ _ _ _ _ _ _ _ (by assumption) (by assumption) (by assumption) (by assumption)
          · have hb := (by assumption : ¬ ((B.size : Nat) : Int) = i)
            rw [if_neg hb] at hparse
            refine hold_mk ?_
            refine cut_fr (by assumption) (by assumption) (fun m' => ∃ tb ti tr ii rr, m' (Str.ofString "chars") = some (.bytes B tb) ∧ m' (Str.ofString "cls") = some (.ref 95) ∧ m' (Str.ofString "idx") = some (.int ii ti) ∧ m' (Str.ofString "result") = some (.int rr tr) ∧ 0 ≤ ii ∧ (ii, rr) = blockT B i r) ?_ ?_
            · (rename StopIf => hst; clear hst)
              k_steps
              · refine hold_mk ?_
                exact ⟨rfl, _, _, _, rfl, by assumption, news_sub (by assumption) (fun p hp => by first | exact hp | exact .tail _ hp | exact .tail _ (.tail _ hp) | exact .tail _ (.tail _ (.tail _ hp))), _, _, _, _, _, rfl, rfl, rfl, rfl, by omega, by rw [blockT, blockB, if_pos (by assumption)]⟩
              · refine hold_mk ?_
                exact ⟨rfl, _, _, _, rfl, by assumption, news_sub (by assumption) (fun p hp => by first | exact hp | exact .tail _ hp | exact .tail _ (.tail _ hp) | exact .tail _ (.tail _ (.tail _ hp))), _, _, _, _, _, rfl, rfl, rfl, rfl, by omega, by rw [blockT, blockB, if_neg (ne_true_of_eq_false (by assumption)), if_pos (by assumption)]⟩
              · have hb9 := (by assumption : (cutL B i.toNat 2 == [88, 67]) = false)
                have hb4 := (by assumption : (cutL B i.toNat 2 == [88, 76]) = false)
                have hb5 := (by assumption : (cutL B i.toNat 1 == [76]) = true)
                have hbl : blockT B i r = loopB B 88 10 3 (i + 1) (r + 50) := by rw [blockT, blockB, if_neg (ne_true_of_eq_false hb9), if_neg (ne_true_of_eq_false hb4), if_pos hb5]
                rename_i I hI
                refine hold_mk ?_
                refine rangeRest_ind (fun k m' => ∃ tb ti tr ii rr, m' (Str.ofString "chars") = some (.bytes B tb) ∧ m' (Str.ofString "cls") = some (.ref 95) ∧ m' (Str.ofString "idx") = some (.int ii ti) ∧ m' (Str.ofString "result") = some (.int rr tr) ∧ 0 ≤ ii ∧ loopB B 88 10 k ii rr = loopB B 88 10 3 (i + 1) (r + 50)) ?hz ?hs _ _ _ ⟨_, _, _, _, _, rfl, rfl, rfl, rfl, by omega, rfl⟩
                case hz =>
                  rintro j m' ⟨tb, ti, tr, ii, rr, e1, e2, e3, e4, hii, hfin⟩
                  refine RangeRest.zero (fun h' tk' F' N' => ?_)
                  k_steps
                  refine hold_mk ?_
                  refine ⟨rfl, _, _, _, rfl, F', news_sub N' (fun p hp => by first | exact hp | exact .tail _ hp | exact .tail _ (.tail _ hp) | exact .tail _ (.tail _ (.tail _ hp))), tb, ti, tr, ii, rr, e1, e2, e3, e4, hii, ?_⟩
                  rw [hbl]; exact hfin
                case hs =>
                  rintro k j m' ⟨tb, ti, tr, ii, rr, e1, e2, e3, e4, hii, hfin⟩ ih
                  refine RangeRest.succ (fun t' h' tk' F' N' => ?_)
                  have F2 := fr4 F' (n1 := Str.ofString "chars") (n2 := Str.ofString "cls") (n3 := Str.ofString "idx") (n4 := Str.ofString "result") (v1 := .bytes B tb) (v2 := .ref 95) (v3 := .int ii ti) (v4 := .int rr tr) (by rw [if_neg (by decide +kernel)]; exact e1) (by rw [if_neg (by decide +kernel)]; exact e2) (by rw [if_neg (by decide +kernel)]; exact e3) (by rw [if_neg (by decide +kernel)]; exact e4)
                  clear F'
                  k_steps
                  · have hb := (by assumption : (cutL B ii.toNat 1 == [88]) = true)
                    refine hold_mk ?_
                    refine unrEnd_one (by assumption) (by assumption) (by assumption) (ih _ ⟨_, _, _, _, _, rfl, rfl, rfl, rfl, by omega, ?_⟩)
                    rw [← hfin, loopB, if_pos hb]
                  · have hb := (by assumption : (cutL B ii.toNat 1 == [88]) = false)
                    rw [loopB, if_neg (ne_true_of_eq_false hb)] at hfin
                    refine hold_mk ?_
                    refine ⟨rfl, _, _, _, rfl, by assumption, news_sub (by assumption) (fun p hp => by first | exact hp | exact .tail _ hp | exact .tail _ (.tail _ hp) | exact .tail _ (.tail _ (.tail _ hp))), _, _, _, ii, rr, rfl, rfl, rfl, rfl, hii, ?_⟩
                    rw [hbl]; exact hfin

              · have hb9 := (by assumption : (cutL B i.toNat 2 == [88, 67]) = false)
                have hb4 := (by assumption : (cutL B i.toNat 2 == [88, 76]) = false)
                have hb5 := (by assumption : (cutL B i.toNat 1 == [76]) = false)
                have hbl : blockT B i r = loopB B 88 10 3 i r := by rw [blockT, blockB, if_neg (ne_true_of_eq_false hb9), if_neg (ne_true_of_eq_false hb4), if_neg (ne_true_of_eq_false hb5)]
                rename_i I hI
                refine hold_mk ?_
                refine rangeRest_ind (fun k m' => ∃ tb ti tr ii rr, m' (Str.ofString "chars") = some (.bytes B tb) ∧ m' (Str.ofString "cls") = some (.ref 95) ∧ m' (Str.ofString "idx") = some (.int ii ti) ∧ m' (Str.ofString "result") = some (.int rr tr) ∧ 0 ≤ ii ∧ loopB B 88 10 k ii rr = loopB B 88 10 3 i r) ?hz ?hs _ _ _ ⟨_, _, _, _, _, rfl, rfl, rfl, rfl, by omega, rfl⟩
                case hz =>
                  rintro j m' ⟨tb, ti, tr, ii, rr, e1, e2, e3, e4, hii, hfin⟩
                  refine RangeRest.zero (fun h' tk' F' N' => ?_)
                  k_steps
                  refine hold_mk ?_
                  refine ⟨rfl, _, _, _, rfl, F', news_sub N' (fun p hp => by first | exact hp | exact .tail _ hp | exact .tail _ (.tail _ hp) | exact .tail _ (.tail _ (.tail _ hp))), tb, ti, tr, ii, rr, e1, e2, e3, e4, hii, ?_⟩
                  rw [hbl]; exact hfin
                case hs =>
                  rintro k j m' ⟨tb, ti, tr, ii, rr, e1, e2, e3, e4, hii, hfin⟩ ih
                  refine RangeRest.succ (fun t' h' tk' F' N' => ?_)
                  have F2 := fr4 F' (n1 := Str.ofString "chars") (n2 := Str.ofString "cls") (n3 := Str.ofString "idx") (n4 := Str.ofString "result") (v1 := .bytes B tb) (v2 := .ref 95) (v3 := .int ii ti) (v4 := .int rr tr) (by rw [if_neg (by decide +kernel)]; exact e1) (by rw [if_neg (by decide +kernel)]; exact e2) (by rw [if_neg (by decide +kernel)]; exact e3) (by rw [if_neg (by decide +kernel)]; exact e4)
                  clear F'
                  k_steps
                  · have hb := (by assumption : (cutL B ii.toNat 1 == [88]) = true)
                    refine hold_mk ?_
                    refine unrEnd_one (by assumption) (by assumption) (by assumption) (ih _ ⟨_, _, _, _, _, rfl, rfl, rfl, rfl, by omega, ?_⟩)
                    rw [← hfin, loopB, if_pos hb]
                  · have hb := (by assumption : (cutL B ii.toNat 1 == [88]) = false)
                    rw [loopB, if_neg (ne_true_of_eq_false hb)] at hfin
                    refine hold_mk ?_
                    refine ⟨rfl, _, _, _, rfl, by assumption, news_sub (by assumption) (fun p hp => by first | exact hp | exact .tail _ hp | exact .tail _ (.tail _ hp) | exact .tail _ (.tail _ (.tail _ hp))), _, _, _, ii, rr, rfl, rfl, rfl, rfl, hii, ?_⟩
                    rw [hbl]; exact hfin

            · rintro h1 tk1 m1 ⟨tb, ti, tr, i, r, e1, e2, e3, e4, hi, hir⟩ F1 N1
              have F2 := fr4 F1 e1 e2 e3 e4
              clear F1
              unfold parse2 at hparse
              rw [← hir] at hparse
              dsimp only at hparse
              clear hir
              k_steps
              · have hb := (by assumption : ((B.size : Nat) : Int) = i)
                rw [if_pos hb] at hparse
                refine hold_mk ?_
                have hn : n = r := hparse
                subst hn
                ktn_open
                k_steps
                all_goals exact hret _ _ _ _ _ _ _ _ (by assumption) (by assumption) (by assumption) (by assumption)
              · have hb := (by assumption : ¬ ((B.size : Nat) : Int) = i)
                rw [if_neg hb] at hparse
                refine hold_mk ?_
                refine cut_fr (by assumption) (by assumption) (fun m' => ∃ tb ti tr ii rr, m' (Str.ofString "chars") = some (.bytes B tb) ∧ m' (Str.ofString "cls") = some (.ref 95) ∧ m' (Str.ofString "idx") = some (.int ii ti) ∧ m' (Str.ofString "result") = some (.int rr tr) ∧ 0 ≤ ii ∧ (ii, rr) = blockU B i r) ?_ ?_
                · (rename StopIf => hst; clear hst)
                  k_steps
                  · refine hold_mk ?_
                    exact ⟨rfl, _, _, _, rfl, by assumption, news_sub (by assumption) (fun p hp => by first | exact hp | exact .tail _ hp | exact .tail _ (.tail _ hp) | exact .tail _ (.tail _ (.tail _ hp))), _, _, _, _, _, rfl, rfl, rfl, rfl, by omega, by rw [blockU, blockB, if_pos (by assumption)]⟩
                  · refine hold_mk ?_
                    exact ⟨rfl, _, _, _, rfl, by assumption, news_sub (by assumption) (fun p hp => by first | exact hp | exact .tail _ hp | exact .tail _ (.tail _ hp) | exact .tail _ (.tail _ (.tail _ hp))), _, _, _, _, _, rfl, rfl, rfl, rfl, by omega, by rw [blockU, blockB, if_neg (ne_true_of_eq_false (by assumption)), if_pos (by assumption)]⟩
                  · have hb9 := (by assumption : (cutL B i.toNat 2 == [73, 88]) = false)
                    have hb4 := (by assumption : (cutL B i.toNat 2 == [73, 86]) = false)
                    have hb5 := (by assumption : (cutL B i.toNat 1 == [86]) = true)
                    have hbl : blockU B i r = loopB B 73 1 3 (i + 1) (r + 5) := by rw [blockU, blockB, if_neg (ne_true_of_eq_false hb9), if_neg (ne_true_of_eq_false hb4), if_pos hb5]
                    rename_i I hI
                    refine hold_mk ?_
                    refine rangeRest_ind (fun k m' => ∃ tb ti tr ii rr, m' (Str.ofString "chars") = some (.bytes B tb) ∧ m' (Str.ofString "cls") = some (.ref 95) ∧ m' (Str.ofString "idx") = some (.int ii ti) ∧ m' (Str.ofString "result") = some (.int rr tr) ∧ 0 ≤ ii ∧ loopB B 73 1 k ii rr = loopB B 73 1 3 (i + 1) (r + 5)) ?hz ?hs _ _ _ ⟨_, _, _, _, _, rfl, rfl, rfl, rfl, by omega, rfl⟩
                    case hz =>
                      rintro j m' ⟨tb, ti, tr, ii, rr, e1, e2, e3, e4, hii, hfin⟩
                      refine RangeRest.zero (fun h' tk' F' N' => ?_)
                      k_steps
                      refine hold_mk ?_
                      refine ⟨rfl, _, _, _, rfl, F', news_sub N' (fun p hp => by first | exact hp | exact .tail _ hp | exact .tail _ (.tail _ hp) | exact .tail _ (.tail _ (.tail _ hp))), tb, ti, tr, ii, rr, e1, e2, e3, e4, hii, ?_⟩
                      rw [hbl]; exact hfin
                    case hs =>
                      rintro k j m' ⟨tb, ti, tr, ii, rr, e1, e2, e3, e4, hii, hfin⟩ ih
                      refine RangeRest.succ (fun t' h' tk' F' N' => ?_)
                      have F2 := fr4 F' (n1 := Str.ofString "chars") (n2 := Str.ofString "cls") (n3 := Str.ofString "idx") (n4 := Str.ofString "result") (v1 := .bytes B tb) (v2 := .ref 95) (v3 := .int ii ti) (v4 := .int rr tr) (by rw [if_neg (by decide +kernel)]; exact e1) (by rw [if_neg (by decide +kernel)]; exact e2) (by rw [if_neg (by decide +kernel)]; exact e3) (by rw [if_neg (by decide +kernel)]; exact e4)
                      clear F'
                      k_steps
                      · have hb := (by assumption : (cutL B ii.toNat 1 == [73]) = true)
                        refine hold_mk ?_
                        refine unrEnd_one (by assumption) (by assumption) (by assumption) (ih _ ⟨_, _, _, _, _, rfl, rfl, rfl, rfl, by omega, ?_⟩)
                        rw [← hfin, loopB, if_pos hb]
                      · have hb := (by assumption : (cutL B ii.toNat 1 == [73]) = false)
                        rw [loopB, if_neg (ne_true_of_eq_false hb)] at hfin
                        refine hold_mk ?_
                        refine ⟨rfl, _, _, _, rfl, by assumption, news_sub (by assumption) (fun p hp => by first | exact hp | exact .tail _ hp | exact .tail _ (.tail _ hp) | exact .tail _ (.tail _ (.tail _ hp))), _, _, _, ii, rr, rfl, rfl, rfl, rfl, hii, ?_⟩
                        rw [hbl]; exact hfin

                  · have hb9 := (by assumption : (cutL B i.toNat 2 == [73, 88]) = false)
                    have hb4 := (by assumption : (cutL B i.toNat 2 == [73, 86]) = false)
                    have hb5 := (by assumption : (cutL B i.toNat 1 == [86]) = false)
                    have hbl : blockU B i r = loopB B 73 1 3 i r := by rw [blockU, blockB, if_neg (ne_true_of_eq_false hb9), if_neg (ne_true_of_eq_false hb4), if_neg (ne_true_of_eq_false hb5)]
                    rename_i I hI
                    refine hold_mk ?_
                    refine rangeRest_ind (fun k m' => ∃ tb ti tr ii rr, m' (Str.ofString "chars") = some (.bytes B tb) ∧ m' (Str.ofString "cls") = some (.ref 95) ∧ m' (Str.ofString "idx") = some (.int ii ti) ∧ m' (Str.ofString "result") = some (.int rr tr) ∧ 0 ≤ ii ∧ loopB B 73 1 k ii rr = loopB B 73 1 3 i r) ?hz ?hs _ _ _ ⟨_, _, _, _, _, rfl, rfl, rfl, rfl, by omega, rfl⟩
                    case hz =>
                      rintro j m' ⟨tb, ti, tr, ii, rr, e1, e2, e3, e4, hii, hfin⟩
                      refine RangeRest.zero (fun h' tk' F' N' => ?_)
                      k_steps
                      refine hold_mk ?_
                      refine ⟨rfl, _, _, _, rfl, F', news_sub N' (fun p hp => by first | exact hp | exact .tail _ hp | exact .tail _ (.tail _ hp) | exact .tail _ (.tail _ (.tail _ hp))), tb, ti, tr, ii, rr, e1, e2, e3, e4, hii, ?_⟩
                      rw [hbl]; exact hfin
                    case hs =>
                      rintro k j m' ⟨tb, ti, tr, ii, rr, e1, e2, e3, e4, hii, hfin⟩ ih
                      refine RangeRest.succ (fun t' h' tk' F' N' => ?_)
                      have F2 := fr4 F' (n1 := Str.ofString "chars") (n2 := Str.ofString "cls") (n3 := Str.ofString "idx") (n4 := Str.ofString "result") (v1 := .bytes B tb) (v2 := .ref 95) (v3 := .int ii ti) (v4 := .int rr tr) (by rw [if_neg (by decide +kernel)]; exact e1) (by rw [if_neg (by decide +kernel)]; exact e2) (by rw [if_neg (by decide +kernel)]; exact e3) (by rw [if_neg (by decide +kernel)]; exact e4)
                      clear F'
                      k_steps
                      · have hb := (by assumption : (cutL B ii.toNat 1 == [73]) = true)
                        refine hold_mk ?_
                        refine unrEnd_one (by assumption) (by assumption) (by assumption) (ih _ ⟨_, _, _, _, _, rfl, rfl, rfl, rfl, by omega, ?_⟩)
                        rw [← hfin, loopB, if_pos hb]
                      · have hb := (by assumption : (cutL B ii.toNat 1 == [73]) = false)
                        rw [loopB, if_neg (ne_true_of_eq_false hb)] at hfin
                        refine hold_mk ?_
                        refine ⟨rfl, _, _, _, rfl, by assumption, news_sub (by assumption) (fun p hp => by first | exact hp | exact .tail _ hp | exact .tail _ (.tail _ hp) | exact .tail _ (.tail _ (.tail _ hp))), _, _, _, ii, rr, rfl, rfl, rfl, rfl, hii, ?_⟩
                        rw [hbl]; exact hfin

                · rintro h1 tk1 m1 ⟨tb, ti, tr, i, r, e1, e2, e3, e4, hi, hir⟩ F1 N1
                  have F2 := fr4 F1 e1 e2 e3 e4
                  clear F1
                  unfold parse3 at hparse
                  rw [← hir] at hparse
                  dsimp only at hparse
                  clear hir
                  k_steps
                  · refine hold_mk ?_
                    have hn : n = r := hparse.2
                    subst hn
                    ktn_open
                    k_steps
                    all_goals exact hret _ _ _ _ _ _ _ _ (by assumption) (by assumption) (by assumption) (by assumption)
                  · have hb := (by assumption : ¬ ((B.size : Nat) : Int) = i)
                    exact absurd hparse.1 hb
end
section
local macro_rules | `(tactic| walk_at "exec For Tuple Tuple cons nil") => `(tactic| (k_here; (rename Fr _ _ _ _ => lF'); (refine' For_turns (hE := ?hE) (hs := ?hs) lF' ?_); (case hE => k_dflt passes_own); (case hs => k_dflt (intro _; rfl))))
local macro_rules | `(tactic| walk_at "pyIter ref") => `(tactic| (k_here; (with_reducible show wpAny _ _ (pyIter (Value.ref _)) (fun it s₂ => TurnsAt _ _ _ _ _ _ _ _ _ it s₂) _ _); (rename Fr _ _ _ _ => lF'); (rename News _ _ _ _ => lN'); k_dflt (refine' iter_tupTurns (by rfl) lF' lN' (by k_mem) (by rfl) (by rfl) ?_); clear lF'; intro i' l1))
local macro_rules | `(tactic| walk_at "UnrEndW") => `(tactic| (refine unrEndW_one (by assumption) (by assumption) (by assumption) ⟨⟨by k_mem, trivial⟩, ?_⟩))
local macro_rules | `(tactic| walk_at "call builtin:str.replace") => `(tactic| ((with_reducible show wpAny _ _ (call (Value.builtin "str.replace") [Value.str _ _, Value.str _ _, Value.str _ _]) _ _ _); k_dflt (first | (refine repl_step 2 _ (by with_reducible assumption) ?_ ?_ ?_ (by decide +kernel) (by decide +kernel) (by omega) ?_) | (refine repl_step 5 _ (by with_reducible assumption) ?_ ?_ ?_ (by decide +kernel) (by decide +kernel) (by omega) ?_)); k_dflt (show @Ne Nat _ _; omega); k_dflt (show @Ne Nat _ _; omega); k_dflt (show @Ne Nat _ _; omega); intro t' k' hl'))
local macro_rules | `(tactic| walk_at "call builtin:str.count") => `(tactic| ((with_reducible show wpAny _ _ (call (Value.builtin "str.count") [Value.str _ _, Value.str _ _]) _ _ _); refine count_step ?_; intro c' hc' hc0' hc1'))
local macro_rules | `(tactic| walk_at "binaryOp Mod int int") => `(tactic| (k_dflt (refine mod_step (by omega) ?_); intro r' hr' hr0' hr1'))
local macro_rules | `(tactic| walk_at "binaryOp FloorDiv int int") => `(tactic| (k_dflt (refine div_step (by omega) (by omega) (by omega) (by omega) ?_); intro q' hq' hq0' hq1'))
local macro_rules | `(tactic| walk_at "binaryOp Mult str int") => `(tactic| (k_dflt (first | refine mul_step 5 (by decide +kernel) (by omega) (by omega) (by omega) ?_ | refine mul_step 8000 (by decide +kernel) (by omega) (by omega) (by omega) ?_); intro t' k' hl'))
local macro_rules | `(tactic| walk_at "binaryOp Add str str") => `(tactic| (k_dflt (refine add_step (by first | with_reducible assumption | exact len_empty) (by first | with_reducible assumption | exact len_empty) (by omega) ?_); intro t' k' hl'))
local macro_rules | `(tactic| walk_at "execs cons") => `(tactic| (k_here; (refine execs_cons_toks (by first | with_reducible assumption | omega) ?_); intro tk' htk'; try dsimp only))
local macro_rules | `(tactic| k_all) => `(tactic| exact ne_all (by with_reducible assumption))
local macro_rules | `(tactic| k_mem) => `(tactic| (refine mem_of ?_; with_reducible assumption))
abbrev RetN (n : Int) (nt : Tok) (news : List (Addr × Obj)) (h₀ : Heap) (L : Addr) (m : Str → Option Value) (s : Shared) (Q : Value → Shared → Prop) : Prop :=
  ∀ (h' : Heap) (tk' : Nat), Fr h₀ L h' m → News h₀ L h' news → Q (.int n nt) { s with heap := h', toks := tk' }
theorem value_ok (w : World) (mean : ExcName → Option Value) (mg mb : Str → Option Value) (news : List (Addr × Obj)) (x dx : Addr) (hs : Int) (kt nt : Tok) (ep : Nat) (n : Int) :
  Gl w mean mg mb 1 70 news (PreObj x dx hs kt nt ep n news) [Value.ref x] (RetN n nt news) := by
  dsimp only [Gl, RetN, TopM]
  k_fill
  intro dp un gd cn cs a ccd cl outer A₀ base h₀ L m s Q E B F X N T hk hpre hdp hun hret
  obtain ⟨hx, hdx, hn1, hn2⟩ := hpre
  refine wpAny_call ?_
  k_dflt cell_enter
  k_steps
  all_goals exact hret _ _ (by assumption) (by assumption)
end
section
local macro_rules | `(tactic| walk_at "exec For Tuple Tuple cons nil") => `(tactic| (k_here; (rename Fr _ _ _ _ => lF'); (refine' For_turns (hE := ?hE) (hs := ?hs) lF' ?_); (case hE => k_dflt passes_own); (case hs => k_dflt (intro _; rfl))))
local macro_rules | `(tactic| walk_at "pyIter ref") => `(tactic| (k_here; (with_reducible show wpAny _ _ (pyIter (Value.ref _)) (fun it s₂ => TurnsAt _ _ _ _ _ _ _ _ _ it s₂) _ _); (rename Fr _ _ _ _ => lF'); (rename News _ _ _ _ => lN'); k_dflt (refine' iter_tupTurns (by rfl) lF' lN' (by k_mem) (by rfl) (by rfl) ?_); clear lF'; intro i' l1))
local macro_rules | `(tactic| walk_at "UnrEndW") => `(tactic| (refine unrEndW_one (by assumption) (by assumption) (by assumption) ⟨⟨by k_mem, trivial⟩, ?_⟩))
local macro_rules | `(tactic| walk_at "call builtin:str.replace") => `(tactic| ((with_reducible show wpAny _ _ (call (Value.builtin "str.replace") [Value.str _ _, Value.str _ _, Value.str _ _]) _ _ _); k_dflt (first | (refine repl_step 2 _ (by with_reducible assumption) ?_ ?_ ?_ (by decide +kernel) (by decide +kernel) (by omega) ?_) | (refine repl_step 5 _ (by with_reducible assumption) ?_ ?_ ?_ (by decide +kernel) (by decide +kernel) (by omega) ?_)); k_dflt (show @Ne Nat _ _; omega); k_dflt (show @Ne Nat _ _; omega); k_dflt (show @Ne Nat _ _; omega); intro t' k' hl'))
local macro_rules | `(tactic| walk_at "call builtin:str.count") => `(tactic| ((with_reducible show wpAny _ _ (call (Value.builtin "str.count") [Value.str _ _, Value.str _ _]) _ _ _); refine count_step ?_; intro c' hc' hc0' hc1'))
local macro_rules | `(tactic| walk_at "binaryOp Mod int int") => `(tactic| (k_dflt (refine mod_step (by omega) ?_); intro r' hr' hr0' hr1'))
local macro_rules | `(tactic| walk_at "binaryOp FloorDiv int int") => `(tactic| (k_dflt (refine div_step (by omega) (by omega) (by omega) (by omega) ?_); intro q' hq' hq0' hq1'))
local macro_rules | `(tactic| walk_at "binaryOp Mult str int") => `(tactic| (k_dflt (first | refine mul_step 5 (by decide +kernel) (by omega) (by omega) (by omega) ?_ | refine mul_step 8000 (by decide +kernel) (by omega) (by omega) (by omega) ?_); intro t' k' hl'))
local macro_rules | `(tactic| walk_at "binaryOp Add str str") => `(tactic| (k_dflt (refine add_step (by first | with_reducible assumption | exact len_empty) (by first | with_reducible assumption | exact len_empty) (by omega) ?_); intro t' k' hl'))
local macro_rules | `(tactic| walk_at "execs cons") => `(tactic| (k_here; (refine execs_cons_toks (by first | with_reducible assumption | omega) ?_); intro tk' htk'; try dsimp only))
local macro_rules | `(tactic| k_all) => `(tactic| exact ne_all (by with_reducible assumption))
local macro_rules | `(tactic| k_mem) => `(tactic| (refine mem_of ?_; with_reducible assumption))
local macro_rules | `(tactic| walk_at "call ref") => `(tactic| (k_here; (with_reducible show wpAny _ _ (call (Value.ref 95) _) _ _ _); k_dflt (refine' make_ok _ _ _ _ _ _ _ _ _ _ _ _ _ _ _ _ _ _ _ _ _ _ _ _ ?k1 ?k2 ?k3 ?k4 ?k5 ?kK ?kp ?kd ?ku ?_; (case k1 => k_asm); (case k2 => k_asm); (case k3 => k_asm); (case k4 => k_asm); (case k5 => k_asm); (case kK => exact rfl); (case kp => exact And.intro (by with_reducible assumption) (by with_reducible assumption)); (case kd => ktr_room); (case ku => ktr_units)); intro x9 dx9 hs9 kt9 nt9 ep9 h9 tk9 F9 N9 l9 l9'; (try dsimp only); (try k_lt l9); (try k_lt2 l9'); (try k_fold)))
local macro_rules | `(tactic| walk_at "call ref") => `(tactic| (k_here; (with_reducible show wpAny _ _ (call (Value.ref 77) _) _ _ _); k_dflt (refine' upper_ok _ _ _ _ _ _ _ _ _ _ _ _ _ _ _ _ _ _ _ _ _ _ _ _ _ _ _ _ _ ?k1 ?k2 ?k3 ?k4 ?k5 ?kK ?kp ?kd ?ku ?_; (case k1 => k_asm); (case k2 => k_asm); (case k3 => k_asm); (case k4 => k_asm); (case k5 => k_asm); (case kK => exact rfl); (case kp => exact ⟨by k_mem, by k_mem, by with_reducible assumption, by with_reducible assumption⟩); (case kd => ktr_room); (case ku => ktr_units)); intro t9 h9 tk9 F9 N9; (try dsimp only); (try k_fold)))
local macro_rules | `(tactic| walk_at "call ref") => `(tactic| (k_here; (with_reducible show wpAny _ _ (call (Value.ref 84) _) _ _ _); k_dflt (refine' lower_ok _ _ _ _ _ _ _ _ _ _ _ _ _ _ _ _ _ _ _ _ _ _ _ _ _ _ _ _ _ ?k1 ?k2 ?k3 ?k4 ?k5 ?kK ?kp ?kd ?ku ?_; (case k1 => k_asm); (case k2 => k_asm); (case k3 => k_asm); (case k4 => k_asm); (case k5 => k_asm); (case kK => exact rfl); (case kp => exact ⟨by k_mem, by k_mem, by with_reducible assumption, by with_reducible assumption⟩); (case kd => ktr_room); (case ku => ktr_units)); intro t9 h9 tk9 F9 N9; (try dsimp only); (try k_fold)))
local macro_rules | `(tactic| walk_at "call ref") => `(tactic| (k_here; (with_reducible show wpAny _ _ (call (Value.ref _) [Value.str _ _]) _ _ _); k_dflt (refine' call_meth ?m1 ?m2 ?_; (case m1 => k_asm); (case m2 => k_mem)); k_dflt (refine' from_ok _ _ _ _ _ _ _ _ _ _ _ _ _ _ _ _ _ _ _ _ _ _ _ _ _ _ ?k1 ?k2 ?k3 ?k4 ?k5 ?kK ?kp ?kd ?ku ?_; (case k1 => k_asm); (case k2 => k_asm); (case k3 => k_asm); (case k4 => k_asm); (case k5 => k_asm); (case kK => exact rfl); (case kp => with_reducible assumption); (case kd => ktr_room); (case ku => ktr_units)); intro x9 dx9 hs9 kt9 nt9 ep9 h9 tk9 F9 N9 l9 l9'; (try dsimp only); (try k_lt l9); (try k_lt2 l9'); (try k_fold)))
local macro_rules | `(tactic| walk_at "call ref") => `(tactic| (k_here; (with_reducible show wpAny _ _ (call (Value.ref 70) _) _ _ _); k_dflt (refine' value_ok _ _ _ _ _ _ _ _ _ _ _ _ _ _ _ _ _ _ _ _ _ _ _ _ _ _ _ _ _ ?k1 ?k2 ?k3 ?k4 ?k5 ?kK ?kp ?kd ?ku ?_; (case k1 => k_asm); (case k2 => k_asm); (case k3 => k_asm); (case k4 => k_asm); (case k5 => k_asm); (case kK => exact rfl); (case kp => exact ⟨by k_mem, by k_mem, by with_reducible assumption, by with_reducible assumption⟩); (case kd => ktr_room); (case ku => ktr_units)); intro h9 tk9 F9 N9; (try dsimp only); (try k_fold)))
local macro_rules | `(tactic| walk_at "newList cons int cons") => `(tactic| (k_here; k_dflt (refine' newList_own ?k1 ?k2 ?_ ?k3; (case k1 => k_asm); (case k2 => k_asm); (case k3 => exact Nat.le_of_ble_eq_true rfl)); intro D' h' F' N' l1'))
local macro_rules | `(tactic| walk_at "compareOp Eq ref ref") => `(tactic| (k_here; k_dflt (refine' eq_lists_own ?k1 ?k2 ?k3 ?k4 ?_; (case k1 => k_asm); (case k2 => k_mem); (case k3 => k_mem); (case k4 => ktr_units))))
def WPre (x : Str) (n : Int) : Prop := 1 ≤ n ∧ n ≤ 4999 ∧ x = upperS n ∧ Txt.lower x = lowerS n ∧ ∃ B, FromPre x B n ∧ FromPre (Txt.lower x) B n
theorem written_ok (w : World) (mean : ExcName → Option Value) (mg mb : Str → Option Value) (news : List (Addr × Obj)) (x : Str) (t : Tok) (n : Int) (tn : Tok) :
  Gl w mean mg mb 10 149 news (WPre x n) [Value.str x t, Value.int n tn] (RetV news fun _ => .bool true) := by
  dsimp only [Gl, RetV, TopM]
  k_fill
  intro dp un gd cn cs a ccd cl outer A₀ base h₀ L m s Q E B F X N T hk hpre hdp hun hret
  obtain ⟨hn1, hn2, hxu, hxl, BB, hF1, hF2⟩ := hpre
  have hlen : x.length ≤ 20 := hF1.1
  have hq1 : (upperS n != x) = false := by rw [hxu]; exact bne_self_eq_false _
  have hq2 : (lowerS n != Txt.lower x) = false := by rw [hxl]; exact bne_self_eq_false _
  refine wpAny_call ?_
  k_dflt cell_enter
  k_steps
  all_goals exact hret 0 _ _ (by assumption) (news_sub (by assumption) fun p hp => by (repeat apply List.mem_cons_of_mem); exact hp)
end
section
section
open PySem.Builtin PySem.Builtin.Str PySem.StrLaws
def repK (y z : List Nat) : Nat → List Nat → List Nat
  | _, [] => []
  | k + 1, _ :: r => repK y z k r
  | 0, c :: r => if y.isPrefixOf (c :: r) = true then z ++ repK y z (y.length - 1) r else c :: repK y z 0 r
theorem repK_skip (y z : List Nat) : ∀ (k : Nat) (l : List Nat), repK y z k l = repK y z 0 (l.drop k)
  | 0, l => by rw [List.drop_zero]
  | k + 1, [] => by simp [repK]
  | k + 1, c :: r => by
    show repK y z k r = _
    rw [repK_skip y z k r, List.drop_succ_cons]
theorem repK_hit {y z l : List Nat} (hy : y ≠ []) (h : y.isPrefixOf l = true) : repK y z 0 l = z ++ repK y z 0 (l.drop y.length) := by
  cases l with
  | nil =>
    cases y with
    | nil => exact absurd rfl hy
    | cons a b => simp [List.isPrefixOf] at h
  | cons c r =>
    show (if y.isPrefixOf (c :: r) = true then z ++ repK y z (y.length - 1) r else _) = _
    rw [if_pos h, repK_skip]
    cases y with
    | nil => exact absurd rfl hy
    | cons a b => rfl
theorem repK_miss {y z r : List Nat} {c : Nat} (h : ¬ y.isPrefixOf (c :: r) = true) : repK y z 0 (c :: r) = c :: repK y z 0 r := by
  show (if y.isPrefixOf (c :: r) = true then z ++ repK y z (y.length - 1) r else _) = _
  rw [if_neg h]
theorem at_prefix {x y : Str} {i : Nat} : At x y x.length i ↔ (i ≤ x.length ∧ y.cps.toList.isPrefixOf (x.cps.toList.drop i) = true) := by
  unfold At subAt
  rw [List.isPrefixOf_iff_prefix]
  have hyl : y.length = y.cps.toList.length := rfl
  have hxl : x.length = x.cps.toList.length := rfl
  constructor
  · rintro ⟨h1, h2⟩
    refine ⟨by omega, ?_⟩
    have e : x.cps.extract i (i + y.length) = y.cps := by simpa using h2
    rw [← e, Array.toList_extract]
    exact List.take_prefix _ _
  · rintro ⟨h0, h⟩
    have hl := h.length_le
    rw [List.length_drop] at hl
    by_cases hy : y.length = 0
    · refine ⟨by omega, ?_⟩
      have : y.cps = #[] := Array.eq_empty_of_size_eq_zero hy
      rw [hy, this]
      simp
      exact Nat.min_le_left ..
    refine ⟨by omega, ?_⟩
    have e : x.cps.extract i (i + y.length) = y.cps := by
      apply Array.toList_inj.mp
      rw [Array.toList_extract]
      show (x.cps.toList.drop i).take (i + y.length - i) = _
      rw [Nat.add_sub_cancel_left, hyl]
      exact (List.prefix_iff_eq_take.mp h).symm
    rw [e]
    exact beq_self_eq_true _
theorem repK_free (x y : Str) (z : List Nat) : ∀ (n a : Nat), a + n ≤ x.length → (∀ k, a ≤ k → k < a + n → ¬ At x y x.length k) → repK y.cps.toList z 0 (x.cps.toList.drop a) = (x.cps.toList.drop a).take n ++ repK y.cps.toList z 0 (x.cps.toList.drop (a + n))
  | 0, a, _, _ => by simp
  | n + 1, a, hb, hn => by
    have hlt : a < x.cps.toList.length := by have : x.length = x.cps.toList.length := rfl; omega
    have e := List.drop_eq_getElem_cons hlt
    have hm : ¬ y.cps.toList.isPrefixOf (x.cps.toList[a] :: x.cps.toList.drop (a + 1)) = true := by
      rw [← e]
      exact fun h => hn a (Nat.le_refl _) (by omega) (at_prefix.mpr ⟨by omega, h⟩)
    rw [e, repK_miss hm, List.take_succ_cons, List.cons_append, repK_free x y z n (a + 1) (by omega) fun k h1 h2 => hn k (by omega) (by omega)]
    have : a + 1 + n = a + (n + 1) := by omega
    rw [this]
theorem partsFrom_ne (x : Str) (w : Nat) : ∀ (a : Nat) (cuts : List Nat), partsFrom x w a cuts ≠ []
  | _, [] => by simp [partsFrom]
  | _, _ :: _ => by simp [partsFrom]
theorem join_cons {z p : Str} {l : List Str} (h : l ≠ []) : (Str.join z (p :: l)).cps.toList = p.cps.toList ++ z.cps.toList ++ (Str.join z l).cps.toList := by
  cases l with
  | nil => exact absurd rfl h
  | cons q r =>
    show (p ++ z ++ Str.join z (q :: r)).cps.toList = _
    simp only [Str.cps_append, Array.toList_append]
theorem repK_parts (x y z : Str) (hy : y.cps.toList ≠ []) : ∀ (cuts : List Nat) (a f : Nat), a ≤ x.length → ChainG x y x.length a cuts f → (∀ k, f ≤ k → ¬ At x y x.length k) →
    (Str.join z (partsFrom x y.length a cuts)).cps.toList = repK y.cps.toList z.cps.toList 0 (x.cps.toList.drop a)
  | [], a, f, ha, h, hn => by
    have e : f = a := h
    subst e
    have hxl : x.length = x.cps.toList.length := rfl
    rw [repK_free x y _ (x.length - f) f (by omega) fun k h1 _ => hn k h1]
    show (strSub x f x.length).cps.toList = _
    have e2 : f + (x.length - f) = x.cps.toList.length := by omega
    rw [strSub_toList, e2, List.drop_length]
    simp [repK]
  | c :: r, a, f, ha, h, hn => by
    obtain ⟨h1, h2, h3, h4⟩ := h
    have hc : c + y.length ≤ x.length := h2.1
    have e2 : a + (c - a) = c := by omega
    rw [repK_free x y _ (c - a) a (by omega) fun k q1 q2 => h3 k q1 (by omega), e2, repK_hit hy (at_prefix.mp h2).2, List.drop_drop]
    show (Str.join z (strSub x a c :: partsFrom x y.length (c + y.length) r)).cps.toList = _
    rw [join_cons (partsFrom_ne _ _ _ _), repK_parts x y z hy r (c + y.length) f hc h4 hn, strSub_toList, List.append_assoc]
    rfl
theorem replace_list (x y z : Str) (hy : y.cps.toList ≠ []) : (Txt.replace x y z).cps.toList = repK y.cps.toList z.cps.toList 0 x.cps.toList := by
  have hw : 1 ≤ y.length := by
    show 1 ≤ y.cps.toList.length
    exact List.length_pos_iff.mpr hy
  have hw0 : (y.length == 0) = false := by rw [beq_eq_false_iff_ne]; omega
  obtain ⟨f, hG, hn⟩ := occ_tight x y hw
  have key := repK_parts x y z hy _ 0 f (Nat.zero_le _) hG hn
  rw [List.drop_zero] at key
  unfold Txt.replace
  rw [hw0, Bool.false_and, Bool.or_false]
  split
  · rename_i he
    have e0 : occurrences x y 0 x.length (x.length + 1) = [] := List.isEmpty_iff.mp he
    rw [e0] at key
    rw [← key]
    show x.cps.toList = (strSub x 0 x.length).cps.toList
    rw [sub_whole]
  · rw [glued_eq_join, partsBetween_eq, key]
theorem repK_pre {y z : List Nat} {c : Nat} {y' : List Nat} (hy : y = c :: y') : ∀ (a b : List Nat), c ∉ a → repK y z 0 (a ++ b) = a ++ repK y z 0 b
  | [], b, _ => rfl
  | d :: a, b, h => by
    have h1 : ¬ c = d := fun e => h (e ▸ List.mem_cons_self ..)
    rw [List.cons_append, repK_miss (by rw [hy]; simp [List.isPrefixOf, h1]), repK_pre hy a b fun m => h (List.mem_cons_of_mem _ m)]
    rfl
theorem prefix_app {b : List Nat} : ∀ (y a : List Nat), (∀ c ∈ y, c ∉ b) → y.isPrefixOf (a ++ b) = true → y.isPrefixOf a = true
  | [], _, _, _ => by simp
  | c :: y', [], hy, h => by
    exfalso
    cases b with
    | nil => simp [List.isPrefixOf] at h
    | cons e b' =>
      simp only [List.nil_append, List.isPrefixOf_cons₂, Bool.and_eq_true, beq_iff_eq] at h
      exact hy c (List.mem_cons_self ..) (by rw [h.1]; exact List.mem_cons_self ..)
  | c :: y', d :: a', hy, h => by
    simp only [List.cons_append, List.isPrefixOf_cons₂, Bool.and_eq_true] at h ⊢
    exact ⟨h.1, prefix_app y' a' (fun e he => hy e (List.mem_cons_of_mem _ he)) h.2⟩
theorem repK_suf {y z : List Nat} (hy0 : y ≠ []) {b : List Nat} (hy : ∀ c ∈ y, c ∉ b) : ∀ (n : Nat) (a : List Nat), a.length ≤ n → repK y z 0 (a ++ b) = repK y z 0 a ++ b
  | _, [], _ => by
    obtain ⟨c, y', e⟩ := List.exists_cons_of_ne_nil hy0
    have := repK_pre (z := z) e b [] (hy c (by rw [e]; exact List.mem_cons_self ..))
    rw [List.append_nil] at this
    rw [List.nil_append, this]
    simp [repK]
  | n + 1, d :: a, hl => by
    have hl' : a.length + 1 ≤ n + 1 := hl
    by_cases h : y.isPrefixOf (d :: a) = true
    · have h' : y.isPrefixOf ((d :: a) ++ b) = true := by
        rw [List.isPrefixOf_iff_prefix] at *
        exact h.trans (List.prefix_append _ _)
      have hle : y.length ≤ (d :: a).length := (List.isPrefixOf_iff_prefix.mp h).length_le
      have h1 : 1 ≤ y.length := List.length_pos_iff.mpr hy0
      rw [repK_hit hy0 h', repK_hit hy0 h, List.drop_append_of_le_length hle, repK_suf hy0 hy n _ (by rw [List.length_drop]; show a.length + 1 - _ ≤ n; omega), List.append_assoc]
    · have h' : ¬ y.isPrefixOf (d :: (a ++ b)) = true := fun q => h (prefix_app y (d :: a) hy q)
      rw [List.cons_append, repK_miss h', repK_miss h, repK_suf hy0 hy n a (by omega)]
      rfl
end
end
section
section
open PySem.Builtin PySem.Builtin.Str PySem.StrLaws
def dA (o f : Nat) (b : Nat) : List Nat := List.replicate (b / 5) f ++ List.replicate (b % 5) o
def dS (o f t : Nat) (b : Nat) : List Nat := if b = 9 then [o, t] else if b = 4 then [o, f] else dA o f b
def romA (m b c d : Nat) : List Nat := List.replicate m 77 ++ (dA 67 68 b ++ (dA 88 76 c ++ dA 73 86 d))
def romS (m b c d : Nat) : List Nat := List.replicate m 77 ++ (dS 67 68 77 b ++ (dS 88 76 67 c ++ dS 73 86 88 d))
def shrL (l : List Nat) : List Nat :=
  repK [73, 73, 73, 73] [73, 86] 0 (repK [86, 73, 73, 73, 73] [73, 88] 0 (repK [88, 88, 88, 88] [88, 76] 0 (repK [76, 88, 88, 88, 88] [88, 67] 0 (repK [67, 67, 67, 67] [67, 68] 0 (repK [68, 67, 67, 67, 67] [67, 77] 0 l)))))
def opL (l : List Nat) : List Nat :=
  repK [73, 86] [73, 73, 73, 73] 0 (repK [73, 88] [86, 73, 73, 73, 73] 0 (repK [88, 76] [88, 88, 88, 88] 0 (repK [88, 67] [76, 88, 88, 88, 88] 0 (repK [67, 68] [67, 67, 67, 67] 0 (repK [67, 77] [68, 67, 67, 67, 67] 0 l)))))
theorem repl_list (x : Str) (y z : Str) (ly lz : List Nat) (hy : y.cps.toList = ly) (hz : z.cps.toList = lz) (h : ly ≠ []) : (Txt.replace x y z).cps.toList = repK ly lz 0 x.cps.toList := by
  subst hy hz
  exact replace_list x y z h
theorem shrunk_list (x : Str) : (shrunk x).cps.toList = shrL x.cps.toList := by
  unfold shrunk shrL
  rw [repl_list _ _ _ [73, 73, 73, 73] [73, 86] (by decide +kernel) (by decide +kernel) (by simp), repl_list _ _ _ [86, 73, 73, 73, 73] [73, 88] (by decide +kernel) (by decide +kernel) (by simp),
    repl_list _ _ _ [88, 88, 88, 88] [88, 76] (by decide +kernel) (by decide +kernel) (by simp), repl_list _ _ _ [76, 88, 88, 88, 88] [88, 67] (by decide +kernel) (by decide +kernel) (by simp),
    repl_list _ _ _ [67, 67, 67, 67] [67, 68] (by decide +kernel) (by decide +kernel) (by simp), repl_list _ _ _ [68, 67, 67, 67, 67] [67, 77] (by decide +kernel) (by decide +kernel) (by simp)]
theorem opened_list (x : Str) : (opened x).cps.toList = opL x.cps.toList := by
  unfold opened opL
  rw [repl_list _ _ _ [73, 86] [73, 73, 73, 73] (by decide +kernel) (by decide +kernel) (by simp), repl_list _ _ _ [73, 88] [86, 73, 73, 73, 73] (by decide +kernel) (by decide +kernel) (by simp),
    repl_list _ _ _ [88, 76] [88, 88, 88, 88] (by decide +kernel) (by decide +kernel) (by simp), repl_list _ _ _ [88, 67] [76, 88, 88, 88, 88] (by decide +kernel) (by decide +kernel) (by simp),
    repl_list _ _ _ [67, 68] [67, 67, 67, 67] (by decide +kernel) (by decide +kernel) (by simp), repl_list _ _ _ [67, 77] [68, 67, 67, 67, 67] (by decide +kernel) (by decide +kernel) (by simp)]
theorem nmM {m c : Nat} (h : c ≠ 77) : c ∉ List.replicate m 77 := fun q => h (List.eq_of_mem_replicate q)
theorem shr_rom {m b c d : Nat} (hb : b < 10) (hc : c < 10) (hd : d < 10) : shrL (romA m b c d) = romS m b c d := by
  have t1 : ∀ b < 10, repK [67, 67, 67, 67] [67, 68] 0 (repK [68, 67, 67, 67, 67] [67, 77] 0 (dA 67 68 b)) = dS 67 68 77 b := by decide +kernel
  have t2 : ∀ b < 10, repK [88, 88, 88, 88] [88, 76] 0 (repK [76, 88, 88, 88, 88] [88, 67] 0 (dA 88 76 b)) = dS 88 76 67 b := by decide +kernel
  have t3 : ∀ b < 10, repK [73, 73, 73, 73] [73, 86] 0 (repK [86, 73, 73, 73, 73] [73, 88] 0 (dA 73 86 b)) = dS 73 86 88 b := by decide +kernel
  have u1 : ∀ c < 10, ∀ d < 10, ∀ e ∈ [68, 67, 67, 67, 67], e ∉ dA 88 76 c ++ dA 73 86 d := by decide +kernel
  have u2 : ∀ c < 10, ∀ d < 10, ∀ e ∈ [67, 67, 67, 67], e ∉ dA 88 76 c ++ dA 73 86 d := by decide +kernel
  have u3 : ∀ d < 10, ∀ e ∈ [76, 88, 88, 88, 88], e ∉ dA 73 86 d := by decide +kernel
  have u4 : ∀ d < 10, ∀ e ∈ [88, 88, 88, 88], e ∉ dA 73 86 d := by decide +kernel
  have v1 : ∀ b < 10, 76 ∉ dS 67 68 77 b ∧ 88 ∉ dS 67 68 77 b ∧ 86 ∉ dS 67 68 77 b ∧ 73 ∉ dS 67 68 77 b := by decide +kernel
  have v2 : ∀ b < 10, 86 ∉ dS 88 76 67 b ∧ 73 ∉ dS 88 76 67 b := by decide +kernel
  unfold shrL romA romS
  rw [repK_pre rfl _ _ (nmM (by decide)), repK_suf (by simp) (u1 c hc d hd) _ _ (Nat.le_refl _), repK_pre rfl _ _ (nmM (by decide)), repK_suf (by simp) (u2 c hc d hd) _ _ (Nat.le_refl _), t1 b hb,
    repK_pre rfl _ _ (nmM (by decide)), repK_pre rfl _ _ (v1 b hb).1, repK_suf (by simp) (u3 d hd) _ _ (Nat.le_refl _), repK_pre rfl _ _ (nmM (by decide)), repK_pre rfl _ _ (v1 b hb).2.1, repK_suf (by simp) (u4 d hd) _ _ (Nat.le_refl _), t2 c hc,
    repK_pre rfl _ _ (nmM (by decide)), repK_pre rfl _ _ (v1 b hb).2.2.1, repK_pre rfl _ _ (v2 c hc).1, repK_pre rfl _ _ (nmM (by decide)), repK_pre rfl _ _ (v1 b hb).2.2.2, repK_pre rfl _ _ (v2 c hc).2, t3 d hd]
theorem op_rom {m b c d : Nat} (hb : b < 10) (hc : c < 10) (hd : d < 10) : opL (romS m b c d) = romA m b c d := by
  have t1 : ∀ b < 10, ∀ c < 10, repK [67, 68] [67, 67, 67, 67] 0 (repK [67, 77] [68, 67, 67, 67, 67] 0 (dS 67 68 77 b ++ dS 88 76 67 c)) = dA 67 68 b ++ dS 88 76 67 c := by decide +kernel
  have t2 : ∀ b < 10, ∀ c < 10, repK [88, 76] [88, 88, 88, 88] 0 (repK [88, 67] [76, 88, 88, 88, 88] 0 (dS 88 76 67 b ++ dS 73 86 88 c)) = dA 88 76 b ++ dS 73 86 88 c := by decide +kernel
  have t3 : ∀ b < 10, repK [73, 86] [73, 73, 73, 73] 0 (repK [73, 88] [86, 73, 73, 73, 73] 0 (dS 73 86 88 b)) = dA 73 86 b := by decide +kernel
  have u1 : ∀ d < 10, ∀ e ∈ [67, 77], e ∉ dS 73 86 88 d := by decide +kernel
  have u2 : ∀ d < 10, ∀ e ∈ [67, 68], e ∉ dS 73 86 88 d := by decide +kernel
  have v1 : ∀ b < 10, 88 ∉ dA 67 68 b ∧ 73 ∉ dA 67 68 b := by decide +kernel
  have v2 : ∀ b < 10, 73 ∉ dA 88 76 b := by decide +kernel
  unfold opL romA romS
  rw [← List.append_assoc (dS 67 68 77 b), repK_pre rfl _ _ (nmM (by decide)), repK_suf (by simp) (u1 d hd) _ _ (Nat.le_refl _), repK_pre rfl _ _ (nmM (by decide)), repK_suf (by simp) (u2 d hd) _ _ (Nat.le_refl _), t1 b hb c hc, List.append_assoc,
    repK_pre rfl _ _ (nmM (by decide)), repK_pre rfl _ _ (v1 b hb).1, repK_pre rfl _ _ (nmM (by decide)), repK_pre rfl _ _ (v1 b hb).1, t2 c hc d hd,
    repK_pre rfl _ _ (nmM (by decide)), repK_pre rfl _ _ (v1 b hb).2, repK_pre rfl _ _ (v2 c hc), repK_pre rfl _ _ (nmM (by decide)), repK_pre rfl _ _ (v1 b hb).2, repK_pre rfl _ _ (v2 c hc), t3 d hd]
end
end
section
section
open PySem.Builtin PySem.Builtin.Str PySem.StrLaws
def sevN : List Nat := [77, 68, 67, 76, 88, 86, 73]
def letN (c : Nat) : Nat := if c = 77 then 1000 else if c = 68 then 500 else if c = 67 then 100 else if c = 76 then 50 else if c = 88 then 10 else if c = 86 then 5 else if c = 73 then 1 else 0
def valN : List Nat → Nat
  | [] => 0
  | c :: r => letN c + valN r
def LV (x : Str) (v : Nat) : Prop := (∀ c ∈ x.cps.toList, c ∈ sevN) ∧ valN x.cps.toList = v
theorem valN_app : ∀ a b : List Nat, valN (a ++ b) = valN a + valN b
  | [], b => by simp [valN]
  | c :: a, b => by
    show letN c + valN (a ++ b) = letN c + valN a + valN b
    rw [valN_app a b]; omega
theorem valN_rep (c : Nat) : ∀ k, valN (List.replicate k c) = k * letN c
  | 0 => by simp [valN]
  | k + 1 => by
    rw [List.replicate_succ]
    show letN c + valN (List.replicate k c) = _
    rw [valN_rep c k, Nat.add_mul]; omega
theorem app_list (a b : Str) : (a ++ b).cps.toList = a.cps.toList ++ b.cps.toList := by rw [Str.cps_append, Array.toList_append]
theorem lv_app {a b : Str} {va vb : Nat} (h : LV a va) (h' : LV b vb) : LV (a ++ b) (va + vb) := by
  refine ⟨fun c hc => ?_, by rw [app_list, valN_app, h.2, h'.2]⟩
  rw [app_list] at hc
  rcases List.mem_append.mp hc with hc | hc
  · exact h.1 c hc
  · exact h'.1 c hc
theorem nil_list : (Str.ofString "").cps.toList = [] := by decide +kernel
theorem lv_nil : LV (Str.ofString "") 0 := by
  unfold LV
  rw [nil_list]
  exact ⟨fun c hc => (nomatch hc), rfl⟩
theorem letN_pos : ∀ c ∈ sevN, 1 ≤ letN c := by decide
theorem valN_len : ∀ l : List Nat, (∀ c ∈ l, c ∈ sevN) → l.length ≤ valN l
  | [], _ => Nat.zero_le _
  | c :: r, h => by
    have h1 := letN_pos c (h c (List.mem_cons_self ..))
    have h2 := valN_len r fun d hd => h d (List.mem_cons_of_mem _ hd)
    show r.length + 1 ≤ letN c + valN r
    omega
theorem lv_len {x : Str} {v : Nat} (h : LV x v) : x.length ≤ v := h.2 ▸ valN_len _ h.1
def sg (c : Nat) : Str := ⟨#[c]⟩
theorem sg_seven : ∀ c ∈ sevN, sg c ∈ seven := by decide +kernel
theorem lv_seven {x : Str} {v : Nat} (h : LV x v) : ∀ c ∈ lettersOf x, c ∈ seven := by
  intro c hc
  obtain ⟨d, hd, rfl⟩ := List.mem_map.mp hc
  exact sg_seven d (h.1 d hd)
def ovN (c : Nat) : Nat := if c = 86 ∨ c = 73 then 1 else 0
theorem half_tab : ∀ c ∈ sevN, (∀ d ∈ (halfL (sg c)).cps.toList, d ∈ sevN) ∧ 2 * valN (halfL (sg c)).cps.toList + ovN c = letN c ∧
    (if (occurrences (Str.ofString "VI") (sg c) 0 (Str.ofString "VI").length 1).isEmpty = true then (0 : Int) else 1) = ovN c := by decide +kernel
theorem fold_ind : ∀ (l : List Nat) (h : Str) (o : Nat), (∀ c ∈ l, c ∈ sevN) → (∀ c ∈ h.cps.toList, c ∈ sevN) → ∃ k : Nat, (∀ c ∈ (foldHalf (l.map sg) h).cps.toList, c ∈ sevN) ∧ foldOver (l.map sg) o = (k : Int) ∧
    2 * valN (foldHalf (l.map sg) h).cps.toList + k = 2 * valN h.cps.toList + o + valN l
  | [], h, o, _, hh => ⟨o, hh, rfl, rfl⟩
  | c :: r, h, o, hl, hh => by
    obtain ⟨t1, t2, t3⟩ := half_tab c (hl c (List.mem_cons_self ..))
    obtain ⟨k, k1, k2, k3⟩ := fold_ind r (h ++ halfL (sg c)) (o + ovN c) (fun d hd => hl d (List.mem_cons_of_mem _ hd)) (fun d hd => by
      rw [app_list] at hd
      rcases List.mem_append.mp hd with hd | hd
      · exact hh d hd
      · exact t1 d hd)
    refine ⟨k, k1, ?_, ?_⟩
    · show foldOver (r.map sg) ((o : Int) + _) = _
      rw [t3, ← k2]
      rfl
    · show 2 * valN (foldHalf (r.map sg) (h ++ halfL (sg c))).cps.toList + k = 2 * valN h.cps.toList + o + (letN c + valN r)
      rw [k3, app_list, valN_app]; omega
theorem foldl_app_one (c : Nat) : ∀ (k : Nat) (acc : Array Nat), ((List.replicate k (#[c] : Array Nat)).foldl (· ++ ·) acc).toList = acc.toList ++ List.replicate k c
  | 0, acc => by simp
  | k + 1, acc => by
    rw [List.replicate_succ, List.foldl_cons, foldl_app_one c k, List.replicate_succ]
    simp
theorem mul_list {x : Str} {c : Nat} (hx : x = ⟨#[c]⟩) (n : Int) : (Txt.mul x n).cps.toList = List.replicate n.toNat c := by
  subst hx
  unfold Txt.mul
  split
  · have : n.toNat = 0 := by omega
    rw [this]; rfl
  split
  · rename_i h
    have h1 : n = 1 := by
      simp [PySem.Str.length] at h
      exact h
    subst h1
    rfl
  · show ((List.replicate n.toNat (#[c] : Array Nat)).foldl (· ++ ·) #[]).toList = _
    rw [foldl_app_one]
    rfl
theorem lv_half {x : Str} {v : Nat} (h : LV x v) : LV (halvedS x) (v / 2) ∧ halvedB x = (v % 2 == 1) := by
  obtain ⟨k, k1, k2, k3⟩ := fold_ind x.cps.toList (Str.ofString "") 0 h.1 (by rw [nil_list]; exact fun c hc => (nomatch hc))
  have k2' : foldOver (lettersOf x) 0 = (k : Int) := k2
  rw [h.2, nil_list] at k3
  have k3' : 2 * valN (foldHalf (lettersOf x) (Str.ofString "")).cps.toList + k = v := by
    have : valN [] = 0 := rfl
    rw [this] at k3
    have e : 2 * 0 + 0 + v = v := by omega
    rw [e] at k3
    exact k3
  have e2 : ((k : Int).fdiv 2).toNat = k / 2 := by
    rw [Int.fdiv_eq_ediv_of_nonneg _ (by omega)]; omega
  have hm : (Txt.mul (Str.ofString "I") ((k : Int).fdiv 2)).cps.toList = List.replicate (k / 2) 73 := by
    rw [mul_list (c := 73) (by decide +kernel), e2]
  refine ⟨⟨fun c hc => ?_, ?_⟩, ?_⟩
  · unfold halvedS at hc
    rw [app_list, k2', hm] at hc
    rcases List.mem_append.mp hc with hc | hc
    · exact k1 c hc
    · rw [List.eq_of_mem_replicate hc]; decide
  · unfold halvedS
    rw [app_list, k2', hm, valN_app, valN_rep]
    have : letN 73 = 1 := rfl
    rw [this]; omega
  · unfold halvedB
    rw [k2', Int.fmod_eq_emod_of_nonneg _ (by omega)]
    have e3 : v % 2 = k % 2 := by omega
    rw [e3]
    rcases Nat.mod_two_eq_zero_or_one k with e | e
    · have : ((k : Int) % 2) = 0 := by omega
      rw [this, e]; rfl
    · have : ((k : Int) % 2) = 1 := by omega
      rw [this, e]; rfl
end
end
section
section
open PySem.Builtin PySem.Builtin.Str PySem.StrLaws
def cn (c : Nat) : List Nat → Nat
  | [] => 0
  | d :: r => (if d = c then 1 else 0) + cn c r
theorem cnt_cn (c : Nat) : ∀ l : List Nat, cnt c l = (cn c l : Int)
  | [] => rfl
  | d :: r => by
    rw [cnt_cons, cnt_cn c r]
    show _ = (((if d = c then 1 else 0) + cn c r : Nat) : Int)
    split <;> omega
theorem count_list (x y : Str) (c : Nat) (hy : y = ⟨#[c]⟩) : Txt.count x y = (cn c x.cps.toList : Int) := by
  subst hy
  rw [count_cnt, cnt_cn]
theorem valN_cn : ∀ l : List Nat, valN l = 1000 * cn 77 l + 500 * cn 68 l + 100 * cn 67 l + 50 * cn 76 l + 10 * cn 88 l + 5 * cn 86 l + cn 73 l
  | [] => rfl
  | c :: r => by
    show letN c + valN r = 1000 * ((if c = 77 then 1 else 0) + cn 77 r) + 500 * ((if c = 68 then 1 else 0) + cn 68 r) + 100 * ((if c = 67 then 1 else 0) + cn 67 r) + 50 * ((if c = 76 then 1 else 0) + cn 76 r) +
      10 * ((if c = 88 then 1 else 0) + cn 88 r) + 5 * ((if c = 86 then 1 else 0) + cn 86 r) + ((if c = 73 then 1 else 0) + cn 73 r)
    rw [valN_cn r]
    unfold letN
    repeat' split
    all_goals omega
def gath_text (x : Str) : Str := Txt.mul (Str.ofString "M") (gM x) ++ (Txt.mul (Str.ofString "D") ((gD x).fmod 2) ++ (Txt.mul (Str.ofString "C") ((gC x).fmod 5) ++ (Txt.mul (Str.ofString "L") ((gL x).fmod 2) ++
    (Txt.mul (Str.ofString "X") ((gX x).fmod 5) ++ (Txt.mul (Str.ofString "V") ((gV x).fmod 2) ++ (Txt.mul (Str.ofString "I") ((gI x).fmod 5) ++ Str.ofString ""))))))
theorem text_list (x : Str) : (gath_text x).cps.toList = romA (valN x.cps.toList / 1000) (valN x.cps.toList / 100 % 10) (valN x.cps.toList / 10 % 10) (valN x.cps.toList % 10) := by
  have hv := valN_cn x.cps.toList
  have hI := count_list x (Str.ofString "I") 73 (by decide +kernel)
  have hV := count_list x (Str.ofString "V") 86 (by decide +kernel)
  have hX := count_list x (Str.ofString "X") 88 (by decide +kernel)
  have hL := count_list x (Str.ofString "L") 76 (by decide +kernel)
  have hC := count_list x (Str.ofString "C") 67 (by decide +kernel)
  have hD := count_list x (Str.ofString "D") 68 (by decide +kernel)
  have hM := count_list x (Str.ofString "M") 77 (by decide +kernel)
  generalize cn 73 x.cps.toList = cI at *
  generalize cn 86 x.cps.toList = cV at *
  generalize cn 88 x.cps.toList = cX at *
  generalize cn 76 x.cps.toList = cL at *
  generalize cn 67 x.cps.toList = cC at *
  generalize cn 68 x.cps.toList = cD at *
  generalize cn 77 x.cps.toList = cM at *
  generalize valN x.cps.toList = v at *
  have fd : ∀ (a k : Nat), 0 < k → ((a : Int).fdiv (k : Int)) = ((a / k : Nat) : Int) := fun a k hk => by rw [Int.fdiv_eq_ediv_of_nonneg _ (by omega)]; rfl
  have fm : ∀ (a k : Nat), 0 < k → ((a : Int).fmod (k : Int)).toNat = a % k := fun a k hk => by rw [Int.fmod_eq_emod_of_nonneg _ (by omega)]; rfl
  have fd2 : ∀ a : Nat, (a : Int).fdiv 2 = ((a / 2 : Nat) : Int) := fun a => fd a 2 (by omega)
  have fd5 : ∀ a : Nat, (a : Int).fdiv 5 = ((a / 5 : Nat) : Int) := fun a => fd a 5 (by omega)
  have gI1 : gI x = ((cI : Nat) : Int) := by unfold gI; rw [hI]; omega
  obtain ⟨eV, heV⟩ : ∃ e, e = cV + cI / 5 := ⟨_, rfl⟩
  have gV1 : gV x = (eV : Int) := by unfold gV; rw [hV, gI1, fd5]; omega
  obtain ⟨eX, heX⟩ : ∃ e, e = cX + eV / 2 := ⟨_, rfl⟩
  have gX1 : gX x = (eX : Int) := by unfold gX; rw [hX, gV1, fd2]; omega
  obtain ⟨eL, heL⟩ : ∃ e, e = cL + eX / 5 := ⟨_, rfl⟩
  have gL1 : gL x = (eL : Int) := by unfold gL; rw [hL, gX1, fd5]; omega
  obtain ⟨eC, heC⟩ : ∃ e, e = cC + eL / 2 := ⟨_, rfl⟩
  have gC1 : gC x = (eC : Int) := by unfold gC; rw [hC, gL1, fd2]; omega
  obtain ⟨eD, heD⟩ : ∃ e, e = cD + eC / 5 := ⟨_, rfl⟩
  have gD1 : gD x = (eD : Int) := by unfold gD; rw [hD, gC1, fd5]; omega
  obtain ⟨eM, heM⟩ : ∃ e, e = cM + eD / 2 := ⟨_, rfl⟩
  have gM1 : gM x = (eM : Int) := by unfold gM; rw [hM, gD1, fd2]; omega
  have hv1 : v = 1000 * cM + 500 * cD + 100 * cC + 50 * cL + 10 * cX + 5 * eV + cI % 5 := by omega
  have hv2 : v = 1000 * cM + 500 * cD + 100 * cC + 50 * cL + 10 * eX + 5 * (eV % 2) + cI % 5 := by omega
  have hv3 : v = 1000 * cM + 500 * cD + 100 * cC + 50 * eL + 10 * (eX % 5) + 5 * (eV % 2) + cI % 5 := by omega
  have hv4 : v = 1000 * cM + 500 * cD + 100 * eC + 50 * (eL % 2) + 10 * (eX % 5) + 5 * (eV % 2) + cI % 5 := by omega
  have hv5 : v = 1000 * cM + 500 * eD + 100 * (eC % 5) + 50 * (eL % 2) + 10 * (eX % 5) + 5 * (eV % 2) + cI % 5 := by omega
  have hv6 : v = 1000 * eM + 500 * (eD % 2) + 100 * (eC % 5) + 50 * (eL % 2) + 10 * (eX % 5) + 5 * (eV % 2) + cI % 5 := by omega
  clear hv hv1 hv2 hv3 hv4 hv5 hI hV hX hL hC hD hM heV heX heL heC heD heM
  have b1 := Nat.mod_lt eD (y := 2) (by omega)
  have b2 := Nat.mod_lt eC (y := 5) (by omega)
  have b3 := Nat.mod_lt eL (y := 2) (by omega)
  have b4 := Nat.mod_lt eX (y := 5) (by omega)
  have b5 := Nat.mod_lt eV (y := 2) (by omega)
  have b6 := Nat.mod_lt cI (y := 5) (by omega)
  unfold gath_text romA dA
  simp only [app_list]
  rw [mul_list (c := 77) (by decide +kernel), mul_list (c := 68) (by decide +kernel), mul_list (c := 67) (by decide +kernel), mul_list (c := 76) (by decide +kernel), mul_list (c := 88) (by decide +kernel), mul_list (c := 86) (by decide +kernel), mul_list (c := 73) (by decide +kernel), nil_list,
    gM1, gD1, gC1, gL1, gX1, gV1, gI1]
  have f2 := fun a => fm a 2 (by omega)
  have f5 := fun a => fm a 5 (by omega)
  have f2' : ∀ a : Nat, ((a : Int).fmod 2).toNat = a % 2 := f2
  have f5' : ∀ a : Nat, ((a : Int).fmod 5).toNat = a % 5 := f5
  simp only [f2', f5', Int.toNat_natCast, List.append_nil, List.append_assoc]
  generalize eD % 2 = d2 at *
  generalize eC % 5 = c5 at *
  generalize eL % 2 = l2 at *
  generalize eX % 5 = x5 at *
  generalize eV % 2 = v2 at *
  generalize cI % 5 = i5 at *
  have q0 : v / 1000 = eM := by omega
  have q1 : v / 100 % 10 = 5 * d2 + c5 := by omega
  have q2 : v / 10 % 10 = 5 * l2 + x5 := by omega
  have q3 : v % 10 = 5 * v2 + i5 := by omega
  have q4 : (5 * d2 + c5) / 5 = d2 := by omega
  have q5 : (5 * d2 + c5) % 5 = c5 := by omega
  have q6 : (5 * l2 + x5) / 5 = l2 := by omega
  have q7 : (5 * l2 + x5) % 5 = x5 := by omega
  have q8 : (5 * v2 + i5) / 5 = v2 := by omega
  have q9 : (5 * v2 + i5) % 5 = i5 := by omega
  rw [q0, q1, q2, q3, q4, q5, q6, q7, q8, q9]
def romV (v : Nat) : List Nat := romS (v / 1000) (v / 100 % 10) (v / 10 % 10) (v % 10)
def romW (v : Nat) : List Nat := romA (v / 1000) (v / 100 % 10) (v / 10 % 10) (v % 10)
theorem gath_list {z : Str} {v : Nat} (h : LV z v) : (gathered z).cps.toList = romV v := by
  show (shrunk (gath_text z)).cps.toList = _
  rw [shrunk_list, text_list, h.2, shr_rom (Nat.mod_lt _ (by omega)) (Nat.mod_lt _ (by omega)) (Nat.mod_lt _ (by omega))]
  rfl
theorem opL_romV (v : Nat) : opL (romV v) = romW v := op_rom (Nat.mod_lt _ (by omega)) (Nat.mod_lt _ (by omega)) (Nat.mod_lt _ (by omega))
theorem dA_len : ∀ b < 10, (dA 67 68 b).length ≤ 5 ∧ (dA 88 76 b).length ≤ 5 ∧ (dA 73 86 b).length ≤ 5 ∧ (dS 67 68 77 b).length ≤ 4 ∧ (dS 88 76 67 b).length ≤ 4 ∧ (dS 73 86 88 b).length ≤ 4 := by decide +kernel
theorem dA_mem : ∀ b < 10, (∀ c ∈ dA 67 68 b, c ∈ sevN) ∧ (∀ c ∈ dA 88 76 b, c ∈ sevN) ∧ (∀ c ∈ dA 73 86 b, c ∈ sevN) := by decide +kernel
theorem dS_mem : ∀ b < 10, (∀ c ∈ dS 67 68 77 b, c ∈ sevN) ∧ (∀ c ∈ dS 88 76 67 b, c ∈ sevN) ∧ (∀ c ∈ dS 73 86 88 b, c ∈ sevN) := by decide +kernel
theorem dA_val : ∀ b < 10, valN (dA 67 68 b) = 100 * b ∧ valN (dA 88 76 b) = 10 * b ∧ valN (dA 73 86 b) = b := by decide +kernel
theorem dA_facts : ∀ b < 10, (dA 67 68 b).length ≤ 5 ∧ (dA 88 76 b).length ≤ 5 ∧ (dA 73 86 b).length ≤ 5 ∧ (dS 67 68 77 b).length ≤ 4 ∧ (dS 88 76 67 b).length ≤ 4 ∧ (dS 73 86 88 b).length ≤ 4 ∧
    (∀ c ∈ dA 67 68 b, c ∈ sevN) ∧ (∀ c ∈ dA 88 76 b, c ∈ sevN) ∧ (∀ c ∈ dA 73 86 b, c ∈ sevN) ∧ (∀ c ∈ dS 67 68 77 b, c ∈ sevN) ∧ (∀ c ∈ dS 88 76 67 b, c ∈ sevN) ∧ (∀ c ∈ dS 73 86 88 b, c ∈ sevN) ∧
    valN (dA 67 68 b) = 100 * b ∧ valN (dA 88 76 b) = 10 * b ∧ valN (dA 73 86 b) = b := by
  intro b hb
  obtain ⟨a1, a2, a3, a4, a5, a6⟩ := dA_len b hb
  obtain ⟨b1, b2, b3⟩ := dA_mem b hb
  obtain ⟨c1, c2, c3⟩ := dS_mem b hb
  exact ⟨a1, a2, a3, a4, a5, a6, b1, b2, b3, c1, c2, c3, dA_val b hb⟩
theorem romW_facts (v : Nat) (hv : v ≤ 9998) : (∀ c ∈ romW v, c ∈ sevN) ∧ valN (romW v) = v ∧ (romW v).length ≤ 24 := by
  have h1 := dA_facts (v / 100 % 10) (Nat.mod_lt _ (by omega))
  have h2 := dA_facts (v / 10 % 10) (Nat.mod_lt _ (by omega))
  have h3 := dA_facts (v % 10) (Nat.mod_lt _ (by omega))
  obtain ⟨a1, -, -, -, -, -, a7, -, -, -, -, -, a13, -, -⟩ := h1
  obtain ⟨-, b2, -, -, -, -, -, b8, -, -, -, -, -, b14, -⟩ := h2
  obtain ⟨-, -, c3, -, -, -, -, -, c9, -, -, -, -, -, c15⟩ := h3
  unfold romW romA
  refine ⟨fun c hc => ?_, ?_, ?_⟩
  · simp only [List.mem_append] at hc
    rcases hc with hc | hc | hc | hc
    · rw [List.eq_of_mem_replicate hc]; decide
    · exact a7 c hc
    · exact b8 c hc
    · exact c9 c hc
  · rw [valN_app, valN_app, valN_app, valN_rep, a13, b14, c15]
    have : letN 77 = 1000 := rfl
    rw [this]; omega
  · simp only [List.length_append, List.length_replicate]; omega
theorem romV_facts (v : Nat) (hv : v ≤ 9998) : (∀ c ∈ romV v, c ∈ sevN) ∧ (romV v).length ≤ 21 ∧ (v ≤ 4999 → (romV v).length ≤ 16) := by
  obtain ⟨-, -, -, a4, -, -, -, -, -, a10, -, -, -, -, -⟩ := dA_facts (v / 100 % 10) (Nat.mod_lt _ (by omega))
  obtain ⟨-, -, -, -, b5, -, -, -, -, -, b11, -, -, -, -⟩ := dA_facts (v / 10 % 10) (Nat.mod_lt _ (by omega))
  obtain ⟨-, -, -, -, -, c6, -, -, -, -, -, c12, -, -, -⟩ := dA_facts (v % 10) (Nat.mod_lt _ (by omega))
  unfold romV romS
  refine ⟨fun c hc => ?_, ?_, fun hv' => ?_⟩
  · simp only [List.mem_append] at hc
    rcases hc with hc | hc | hc | hc
    · rw [List.eq_of_mem_replicate hc]; decide
    · exact a10 c hc
    · exact b11 c hc
    · exact c12 c hc
  · simp only [List.length_append, List.length_replicate]; omega
  · simp only [List.length_append, List.length_replicate]; omega
theorem op_ga {z : Str} {v : Nat} (h : LV z v) (h2 : v ≤ 9998) : LV (opened (gathered z)) v ∧ (opened (gathered z)).length ≤ 24 ∧ (gathered z).length ≤ 100 := by
  have e1 := gath_list h
  have e2 : (opened (gathered z)).cps.toList = romW v := by rw [opened_list, e1, opL_romV]
  obtain ⟨w1, w2, w3⟩ := romW_facts v h2
  obtain ⟨v1, v2, v3⟩ := romV_facts v h2
  refine ⟨⟨?_, ?_⟩, ?_, ?_⟩
  · rw [e2]; exact w1
  · rw [e2]; exact w2
  · show (opened (gathered z)).cps.toList.length ≤ 24
    rw [e2]; exact w3
  · show (gathered z).cps.toList.length ≤ 100
    rw [e1]; omega
end
end
section
section
open PySem.Builtin PySem.Builtin.Str PySem.StrLaws
def flat (l : List Str) : List Nat := (l.map fun s => s.cps.toList).flatten
theorem join_flat {sep : Str} (h : sep.cps.toList = []) : ∀ l : List Str, (Str.join sep l).cps.toList = flat l
  | [] => rfl
  | [x] => by simp [flat, Str.join]
  | x :: y :: r => by
    show (x ++ sep ++ Str.join sep (y :: r)).cps.toList = _
    rw [app_list, app_list, h, join_flat h (y :: r)]
    simp [flat]
def upN : List (Nat × List Nat) → Nat → List Nat
  | [], _ => []
  | i :: r, n => (List.replicate (n / i.1) i.2).flatten ++ upN r (n % i.1)
theorem flat_app (a b : List Str) : flat (a ++ b) = flat a ++ flat b := by simp [flat]
theorem flat_rep (k : Nat) (s : Str) : flat (List.replicate k s) = (List.replicate k s.cps.toList).flatten := by simp [flat]
theorem upS_flat : ∀ (tab : List (Int × Str)) (tn : List (Nat × List Nat)) (n : Nat) (acc : List Str), tab.map (fun p => (p.1, p.2.cps.toList)) = tn.map (fun p => ((p.1 : Int), p.2)) → flat (upS tab n acc) = flat acc ++ upN tn n
  | [], [], n, acc, _ => by simp [upS, upN]
  | [], _ :: _, n, acc, h => by simp at h
  | _ :: _, [], n, acc, h => by simp at h
  | i :: r, j :: q, n, acc, h => by
    simp only [List.map_cons, List.cons.injEq, Prod.mk.injEq] at h
    obtain ⟨⟨h1, h2⟩, h3⟩ := h
    show flat (upS r ((n : Int) % i.1) (acc ++ List.replicate ((n : Int) / i.1).toNat i.2)) = _
    rw [h1]
    have e1 : ((n : Int) / (j.1 : Int)).toNat = n / j.1 := rfl
    have e2 : ((n : Int) % (j.1 : Int)) = ((n % j.1 : Nat) : Int) := rfl
    rw [e1, e2, upS_flat r q _ _ h3, flat_app, flat_rep, h2, List.append_assoc]
    rfl
def tabUN : List (Nat × List Nat) := [(900, [67, 77]), (500, [68]), (400, [67, 68]), (100, [67]), (90, [88, 67]), (50, [76]), (40, [88, 76]), (10, [88]), (9, [73, 88]), (5, [86]), (4, [73, 86]), (1, [73])]
def tabLN : List (Nat × List Nat) := [(900, [99, 109]), (500, [100]), (400, [99, 100]), (100, [99]), (90, [120, 99]), (50, [108]), (40, [120, 108]), (10, [120]), (9, [105, 120]), (5, [118]), (4, [105, 118]), (1, [105])]
theorem tabU_N : tabU.map (fun p => (p.1, p.2.cps.toList)) = ((1000, [77]) :: tabUN).map (fun p => ((p.1 : Int), p.2)) := by decide +kernel
theorem tabL_N : tabL.map (fun p => (p.1, p.2.cps.toList)) = ((1000, [109]) :: tabLN).map (fun p => ((p.1 : Int), p.2)) := by decide +kernel
def remN : List (Nat × List Nat) → Nat → Nat
  | [], n => n
  | i :: r, n => remN r (n % i.1)
theorem upN_app : ∀ (t u : List (Nat × List Nat)) (n : Nat), upN (t ++ u) n = upN t n ++ upN u (remN t n)
  | [], u, n => rfl
  | i :: r, u, n => by
    show (List.replicate (n / i.1) i.2).flatten ++ upN (r ++ u) (n % i.1) = ((List.replicate (n / i.1) i.2).flatten ++ upN r (n % i.1)) ++ upN u (remN r (n % i.1))
    rw [upN_app r u, List.append_assoc]
theorem upN_h : ∀ r < 1000, upN (tabUN.take 4) r = dS 67 68 77 (r / 100) ∧ remN (tabUN.take 4) r = r % 100 := by decide +kernel
theorem upN_t : ∀ r < 100, upN ((tabUN.drop 4).take 4) r = dS 88 76 67 (r / 10) ∧ remN ((tabUN.drop 4).take 4) r = r % 10 := by decide +kernel
theorem upN_u : ∀ r < 10, upN (tabUN.drop 8) r = dS 73 86 88 r := by decide +kernel
theorem upN_tab (r : Nat) (h : r < 1000) : upN tabUN r = dS 67 68 77 (r / 100 % 10) ++ (dS 88 76 67 (r / 10 % 10) ++ dS 73 86 88 (r % 10)) := by
  have e : tabUN = tabUN.take 4 ++ ((tabUN.drop 4).take 4 ++ tabUN.drop 8) := rfl
  obtain ⟨h1, h2⟩ := upN_h r h
  obtain ⟨t1, t2⟩ := upN_t (r % 100) (Nat.mod_lt _ (by omega))
  rw [e, upN_app, upN_app, h1, h2, t1, t2, upN_u _ (Nat.mod_lt _ (by omega))]
  have q1 : r / 100 % 10 = r / 100 := by omega
  have q2 : r % 100 / 10 = r / 10 % 10 := by omega
  have q3 : r % 100 % 10 = r % 10 := by omega
  rw [q1, q2, q3]
theorem upN_map (f : Nat → Nat) : ∀ (t : List (Nat × List Nat)) (n : Nat), upN (t.map fun p => (p.1, p.2.map f)) n = (upN t n).map f
  | [], _ => rfl
  | i :: r, n => by
    show (List.replicate (n / i.1) (i.2.map f)).flatten ++ upN (r.map _) (n % i.1) = ((List.replicate (n / i.1) i.2).flatten ++ upN r (n % i.1)).map f
    rw [upN_map f r, List.map_append, List.map_flatten, List.map_replicate]
theorem upN_low (r : Nat) (_ : r < 1000) : upN tabLN r = (upN tabUN r).map (· + 32) := by
  rw [← upN_map]
  rfl
theorem flat_one (k c : Nat) : (List.replicate k [c]).flatten = List.replicate k c := by
  induction k with
  | zero => rfl
  | succ k ih => rw [List.replicate_succ, List.flatten_cons, ih, List.replicate_succ]; rfl
theorem upper_list (n : Nat) : (upperS (n : Int)).cps.toList = romV n := by
  unfold upperS
  show (glued (Str.ofString "") _).cps.toList = _
  rw [glued_eq_join, join_flat nil_list, upS_flat _ _ _ _ tabU_N]
  show flat [] ++ ((List.replicate (n / 1000) [77]).flatten ++ upN tabUN (n % 1000)) = _
  rw [upN_tab _ (Nat.mod_lt _ (by omega)), flat_one]
  have e1 : n % 1000 / 100 % 10 = n / 100 % 10 := by omega
  have e2 : n % 1000 / 10 % 10 = n / 10 % 10 := by omega
  have e3 : n % 1000 % 10 = n % 10 := by omega
  rw [e1, e2, e3]
  rfl
theorem lower_list (n : Nat) : (lowerS (n : Int)).cps.toList = (romV n).map (· + 32) := by
  rw [← upper_list]
  unfold lowerS upperS
  show (glued (Str.ofString "") _).cps.toList = List.map _ (glued (Str.ofString "") _).cps.toList
  rw [glued_eq_join, glued_eq_join, join_flat nil_list, join_flat nil_list, upS_flat _ _ _ _ tabU_N, upS_flat _ _ _ _ tabL_N]
  show flat [] ++ ((List.replicate (n / 1000) [109]).flatten ++ upN tabLN (n % 1000)) = (flat [] ++ ((List.replicate (n / 1000) [77]).flatten ++ upN tabUN (n % 1000))).map (· + 32)
  rw [upN_low _ (Nat.mod_lt _ (by omega)), flat_one, flat_one, List.map_append, List.map_append, List.map_replicate]
  rfl
theorem up_len {n : Int} (h1 : 1 ≤ n) (h2 : n ≤ 4999) : (upperS n).length ≤ 100 := by
  obtain ⟨k, rfl⟩ := Int.eq_ofNat_of_zero_le (by omega : 0 ≤ n)
  obtain ⟨v1, v2, v3⟩ := romV_facts k (by omega)
  show (upperS (k : Int)).cps.toList.length ≤ 100
  rw [upper_list]; omega
theorem op_up {n : Int} (h1 : 1 ≤ n) (h2 : n ≤ 4999) : LV (opened (upperS n)) n.toNat ∧ (opened (upperS n)).length ≤ 24 := by
  obtain ⟨k, rfl⟩ := Int.eq_ofNat_of_zero_le (by omega : 0 ≤ n)
  have e : (opened (upperS (k : Int))).cps.toList = romW k := by rw [opened_list, upper_list, opL_romV]
  obtain ⟨w1, w2, w3⟩ := romW_facts k (by omega)
  refine ⟨⟨?_, ?_⟩, ?_⟩
  · rw [e]; exact w1
  · rw [e]; exact w2
  · show (opened (upperS (k : Int))).cps.toList.length ≤ 24
    rw [e]; exact w3
theorem ga {z : Str} {v : Nat} (h : LV z v) (_ : 1 ≤ v) (_ : v ≤ 4999) : gathered z = upperS v :=
  Str.ext' (Array.toList_inj.mp ((gath_list h).trans (upper_list v).symm))
end
end
section
section
def pB (n : Nat) : Array UInt8 := ((romV n).map UInt8.ofNat).toArray
def loopS (l : UInt8) : Nat → List UInt8 → Nat
  | 0, _ => 0
  | k + 1, S => if (S.take 1 == [l]) = true then loopS l k (S.drop 1) + 1 else 0
def blkS (a9 b9 a4 b4 l5 l1 : UInt8) (S : List UInt8) : Nat × Nat :=
  if (S.take 2 == [a9, b9]) = true then (2, 9) else if (S.take 2 == [a4, b4]) = true then (2, 4) else
  if (S.take 1 == [l5]) = true then (loopS l1 3 (S.drop 1) + 1, loopS l1 3 (S.drop 1) + 5) else (loopS l1 3 S, loopS l1 3 S)
theorem loopB_S (B : Array UInt8) (l : UInt8) (V : Int) : ∀ (k i : Nat) (r : Int), loopB B l V k (i : Int) r = (((i + loopS l k (B.toList.drop i) : Nat) : Int), r + V * (loopS l k (B.toList.drop i) : Nat))
  | 0, i, r => by
    show ((i : Int), r) = (((i + 0 : Nat) : Int), r + V * ((0 : Nat) : Int))
    rw [Nat.add_zero, Int.natCast_zero, Int.mul_zero, Int.add_zero]
  | k + 1, i, r => by
    show (if ((B.toList.drop i).take 1 == [l]) = true then loopB B l V k ((i : Int) + 1) (r + V) else ((i : Int), r)) = _
    unfold loopS
    split
    · have e : ((i : Int) + 1) = ((i + 1 : Nat) : Int) := rfl
      rw [e, loopB_S B l V k (i + 1) (r + V), List.drop_drop]
      refine Prod.ext ?_ ?_
      · show ((i + 1 + _ : Nat) : Int) = ((i + (_ + 1) : Nat) : Int)
        omega
      · show r + V + V * _ = r + V * ((_ + 1 : Nat) : Int)
        rw [Int.natCast_add, Int.mul_add]
        have : V * ((1 : Nat) : Int) = V := Int.mul_one V
        rw [this]; omega
    · show ((i : Int), r) = (((i + 0 : Nat) : Int), r + V * ((0 : Nat) : Int))
      rw [Nat.add_zero, Int.natCast_zero, Int.mul_zero, Int.add_zero]
theorem blockB_S (B : Array UInt8) (a9 b9 a4 b4 l5 l1 : UInt8) (V V9 V4 V5 : Int) (h9 : V9 = V * 9) (h4 : V4 = V * 4) (h5 : V5 = V * 5) (i : Nat) (r : Int) :
    blockB B a9 b9 V9 a4 b4 V4 l5 V5 l1 V (i : Int) r = (((i + (blkS a9 b9 a4 b4 l5 l1 (B.toList.drop i)).1 : Nat) : Int), r + V * ((blkS a9 b9 a4 b4 l5 l1 (B.toList.drop i)).2 : Nat)) := by
  subst h9 h4 h5
  show (if ((B.toList.drop i).take 2 == [a9, b9]) = true then ((i : Int) + 2, r + V * 9) else if ((B.toList.drop i).take 2 == [a4, b4]) = true then ((i : Int) + 2, r + V * 4) else
    if ((B.toList.drop i).take 1 == [l5]) = true then loopB B l1 V 3 ((i : Int) + 1) (r + V * 5) else loopB B l1 V 3 (i : Int) r) = _
  unfold blkS
  split
  · rfl
  split
  · rfl
  split
  · have e : ((i : Int) + 1) = ((i + 1 : Nat) : Int) := rfl
    rw [e, loopB_S, List.drop_drop]
    refine Prod.ext ?_ ?_
    · show ((i + 1 + _ : Nat) : Int) = ((i + (_ + 1) : Nat) : Int)
      omega
    · show r + V * 5 + V * _ = r + V * ((_ + 5 : Nat) : Int)
      rw [Int.natCast_add, Int.mul_add]
      have : V * ((5 : Nat) : Int) = V * 5 := rfl
      rw [this]; omega
  · exact loopB_S B l1 V 3 i r
def bts (l : List Nat) : List UInt8 := l.map UInt8.ofNat
theorem tabH : ∀ b < 10, ∀ c < 10, ∀ d < 10, blkS 67 77 67 68 68 67 (bts (dS 67 68 77 b) ++ (bts (dS 88 76 67 c) ++ bts (dS 73 86 88 d))) = ((bts (dS 67 68 77 b)).length, b) := by decide +kernel
theorem tabT : ∀ c < 10, ∀ d < 10, blkS 88 67 88 76 76 88 (bts (dS 88 76 67 c) ++ bts (dS 73 86 88 d)) = ((bts (dS 88 76 67 c)).length, c) := by decide +kernel
theorem tabO : ∀ d < 10, blkS 73 88 73 86 86 73 (bts (dS 73 86 88 d)) = ((bts (dS 73 86 88 d)).length, d) := by decide +kernel
theorem tabM : ∀ b < 10, ∀ c < 10, ∀ d < 10, ((bts (dS 67 68 77 b) ++ (bts (dS 88 76 67 c) ++ bts (dS 73 86 88 d))).take 1 == [77]) = false := by decide +kernel
theorem tabZ : ∀ b < 10, ((bts (dS 67 68 77 b)).length = 0 → b = 0) ∧ ((bts (dS 88 76 67 b)).length = 0 → b = 0) ∧ ((bts (dS 73 86 88 b)).length = 0 → b = 0) := by decide +kernel
theorem loopS_rep (l : UInt8) (rest : List UInt8) (h : (rest.take 1 == [l]) = false) : ∀ (k m : Nat), m ≤ k → loopS l k (List.replicate m l ++ rest) = m
  | 0, m, hm => by
    have : m = 0 := by omega
    rw [this]; rfl
  | k + 1, 0, _ => by
    show (if (rest.take 1 == [l]) = true then _ else 0) = 0
    rw [h]; rfl
  | k + 1, m + 1, hm => by
    show (if ((l :: (List.replicate m l ++ rest)).take 1 == [l]) = true then loopS l k (List.replicate m l ++ rest) + 1 else 0) = m + 1
    rw [loopS_rep l rest h k m (by omega), List.take_succ_cons, List.take_zero, if_pos (beq_self_eq_true _)]
theorem prs_all (n : Nat) (hn : n ≤ 4999) : parse0 (pB n) (n : Int) := by
  have hm : n / 1000 ≤ 4 := by omega
  have hb : n / 100 % 10 < 10 := Nat.mod_lt _ (by omega)
  have hc : n / 10 % 10 < 10 := Nat.mod_lt _ (by omega)
  have hd : n % 10 < 10 := Nat.mod_lt _ (by omega)
  have hl : (pB n).toList = List.replicate (n / 1000) 77 ++ (bts (dS 67 68 77 (n / 100 % 10)) ++ (bts (dS 88 76 67 (n / 10 % 10)) ++ bts (dS 73 86 88 (n % 10)))) := by
    show (romV n).map UInt8.ofNat = _
    unfold romV romS bts
    rw [List.map_append, List.map_append, List.map_append, List.map_replicate]
    rfl
  have hv : n = 1000 * (n / 1000) + 100 * (n / 100 % 10) + 10 * (n / 10 % 10) + n % 10 := by omega
  generalize n / 1000 = m at *
  generalize n / 100 % 10 = b at *
  generalize n / 10 % 10 = c at *
  generalize n % 10 = d at *
  generalize pB n = B at *
  have hz : B.size = m + (bts (dS 67 68 77 b)).length + (bts (dS 88 76 67 c)).length + (bts (dS 73 86 88 d)).length := by
    rw [← Array.length_toList, hl]
    simp only [List.length_append, List.length_replicate]; omega
  have tM := loopS_rep 77 _ (tabM b hb c hc d hd) 4 m hm
  have tH := tabH b hb c hc d hd
  have tT := tabT c hc d hd
  have tU := tabO d hd
  obtain ⟨z1, -, -⟩ := tabZ b hb
  obtain ⟨-, z2, -⟩ := tabZ c hc
  obtain ⟨-, -, z3⟩ := tabZ d hd
  generalize bts (dS 67 68 77 b) = H at *
  generalize bts (dS 88 76 67 c) = T at *
  generalize bts (dS 73 86 88 d) = U at *
  have d1 : B.toList.drop m = H ++ (T ++ U) := by rw [hl, List.drop_left' (List.length_replicate ..)]
  have d2 : B.toList.drop (m + H.length) = T ++ U := by rw [← List.drop_drop, d1, List.drop_left]
  have d3 : B.toList.drop (m + H.length + T.length) = U := by rw [← List.drop_drop, d2, List.drop_left]
  have e0 : loopB B 77 1000 4 0 0 = ((m : Int), 1000 * (m : Int)) := by
    have := loopB_S B 77 1000 4 0 0
    rw [List.drop_zero, hl, tM, Nat.zero_add, Int.zero_add] at this
    exact this
  have e1 : ∀ r, blockH B (m : Int) r = (((m + H.length : Nat) : Int), r + 100 * (b : Int)) := fun r => by
    have := blockB_S B 67 77 67 68 68 67 100 900 400 500 rfl rfl rfl m r
    rw [d1, tH] at this
    exact this
  have e2 : ∀ r, blockT B ((m + H.length : Nat) : Int) r = (((m + H.length + T.length : Nat) : Int), r + 10 * (c : Int)) := fun r => by
    have := blockB_S B 88 67 88 76 76 88 10 90 40 50 rfl rfl rfl (m + H.length) r
    rw [d2, tT] at this
    exact this
  have e3 : ∀ r, blockU B ((m + H.length + T.length : Nat) : Int) r = (((m + H.length + T.length + U.length : Nat) : Int), r + 1 * (d : Int)) := fun r => by
    have := blockB_S B 73 88 73 86 86 73 1 9 4 5 rfl rfl rfl (m + H.length + T.length) r
    rw [d3, tU] at this
    exact this
  unfold parse0 parse1 parse2 parse3
  rw [e0]
  dsimp only
  rw [e1]
  dsimp only
  rw [e2]
  dsimp only
  rw [e3]
  dsimp only
  rw [hz]
  split
  · have y1 := z1 (by omega)
    have y2 := z2 (by omega)
    have y3 := z3 (by omega)
    omega
  split
  · have y2 := z2 (by omega)
    have y3 := z3 (by omega)
    omega
  split
  · have y3 := z3 (by omega)
    omega
  · exact ⟨rfl, by omega⟩
end
end
section
section
open PySem.Builtin PySem.Builtin.Str PySem.StrLaws
theorem sev_facts : ∀ c ∈ sevN, c < 128 ∧ c + 32 < 128 ∧ lo1 c = c + 32 ∧ up1 (c + 32) = c ∧ roman7.contains (UInt8.ofNat c) = true := by decide +kernel
theorem sev_case : ∀ c ∈ sevN, Unicode.isUpper c = true ∧ Unicode.isLower c = false ∧ Unicode.isTitle c = false ∧ Unicode.isUpper (c + 32) = false ∧ Unicode.isLower (c + 32) = true ∧ Unicode.isTitle (c + 32) = false := by decide +kernel
theorem lower_up {n : Nat} (hn : n ≤ 4999) : Txt.lower (upperS (n : Int)) = lowerS (n : Int) := by
  have hs := (romV_facts n (by omega)).1
  rw [lower_ascii (fun c hc => by rw [upper_list] at hc; exact (sev_facts c (hs c hc)).1)]
  apply Str.ext'
  apply Array.toList_inj.mp
  rw [lower_list, Array.toList_map, upper_list]
  exact List.map_congr_left fun c hc => (sev_facts c (hs c hc)).2.2.1
theorem upper_lo {n : Nat} (hn : n ≤ 4999) : Txt.upper (lowerS (n : Int)) = upperS (n : Int) := by
  have hs := (romV_facts n (by omega)).1
  rw [upper_ascii (fun c hc => by
    rw [lower_list] at hc
    obtain ⟨d, hd, rfl⟩ := List.mem_map.mp hc
    exact (sev_facts d (hs d hd)).2.1)]
  apply Str.ext'
  apply Array.toList_inj.mp
  rw [Array.toList_map, lower_list, upper_list, List.map_map]
  refine Eq.trans (List.map_congr_left (g := _root_.id) fun c hc => (sev_facts c (hs c hc)).2.2.2.1) (List.map_id _)
theorem any_list (x : Str) (p : Nat → Bool) : x.cps.any p = x.cps.toList.any p := (Array.any_toList).symm
theorem romV_ne {n : Nat} (h1 : 1 ≤ n) (hn : n ≤ 4999) : ∃ c r, romV n = c :: r := by
  cases h : romV n with
  | cons c r => exact ⟨c, r, rfl⟩
  | nil =>
    exfalso
    have := (romW_facts n (by omega)).2.1
    rw [← opL_romV, h] at this
    have e : opL [] = [] := rfl
    rw [e] at this
    have h0 : (0 : Nat) = n := this
    omega
theorem wpre {n : Int} (h1 : 1 ≤ n) (h2 : n ≤ 4999) : WPre (upperS n) n := by
  obtain ⟨k, rfl⟩ := Int.eq_ofNat_of_zero_le (by omega : 0 ≤ n)
  have k1 : 1 ≤ k := by omega
  have k2 : k ≤ 4999 := by omega
  obtain ⟨hs, v2, v3⟩ := romV_facts k (by omega)
  have hul := upper_list k
  have hll := lower_list k
  have hlow := lower_up k2
  have hupp := upper_lo k2
  obtain ⟨c0, r0, hne⟩ := romV_ne k1 k2
  have hc0 : c0 ∈ romV k := by rw [hne]; exact List.mem_cons_self ..
  have hB : (asBytes (upperS (k : Int))) = pB k := by
    apply Array.toList_inj.mp
    unfold asBytes pB
    rw [Array.toList_map, hul]
  have hul' : (upperS (k : Int)).length = (romV k).length := by rw [← hul]; rfl
  have hll' : (lowerS (k : Int)).length = (romV k).length := by
    show (lowerS (k : Int)).cps.toList.length = _
    rw [hll, List.length_map]
  have hl1 : 1 ≤ (romV k).length := by rw [hne]; exact Nat.succ_le_succ (Nat.zero_le _)
  have hl2 := v3 k2
  have ha1 : ∀ c ∈ (upperS (k : Int)).cps.toList, c < 128 := fun c hc => by rw [hul] at hc; exact (sev_facts c (hs c hc)).1
  have ha2 : ∀ c ∈ (lowerS (k : Int)).cps.toList, c < 128 := fun c hc => by
    rw [hll] at hc
    obtain ⟨d, hd, rfl⟩ := List.mem_map.mp hc
    exact (sev_facts d (hs d hd)).2.1
  have hr7 : ∀ c ∈ (pB k).toList, roman7.contains c = true := fun c hc => by
    unfold pB at hc
    obtain ⟨d, hd, rfl⟩ := List.mem_map.mp hc
    exact (sev_facts d (hs d hd)).2.2.2.2
  have hsz : (pB k).size ≤ 1000 := by
    show ((romV k).map UInt8.ofNat).toArray.size ≤ 1000
    rw [List.size_toArray, List.length_map]; omega
  have hp : parse0 (pB k) (k : Int) := by
    exact prs_all k k2
  refine ⟨h1, h2, rfl, hlow, pB k, ⟨by omega, by omega, h1, h2, ?_, .inl ⟨?_, ha1, hB⟩, hr7, hsz, hp⟩, ?_⟩
  · unfold Txt.isascii
    rw [← Array.all_toList, List.all_eq_true]
    exact fun c hc => decide_eq_true (ha1 c hc)
  · unfold Txt.isupper
    rw [any_list, any_list, hul, Bool.and_eq_true]
    refine ⟨List.any_eq_true.mpr ⟨c0, hc0, (sev_case c0 (hs c0 hc0)).1⟩, ?_⟩
    rw [Bool.not_eq_true', List.any_eq_false]
    intro c hc
    obtain ⟨q1, q2, q3, -⟩ := sev_case c (hs c hc)
    rw [q2, q3]
    decide
  · rw [hlow]
    refine ⟨by omega, by omega, h1, h2, ?_, .inr ⟨?_, ?_, ?_, ?_, ?_, ?_⟩, hr7, hsz, hp⟩
    · unfold Txt.isascii
      rw [← Array.all_toList, List.all_eq_true]
      exact fun c hc => decide_eq_true (ha2 c hc)
    · unfold Txt.isupper
      rw [any_list, any_list, hll, Bool.and_eq_false_iff]
      left
      rw [List.any_eq_false]
      intro c hc
      obtain ⟨d, hd, rfl⟩ := List.mem_map.mp hc
      rw [(sev_case d (hs d hd)).2.2.2.1]
      decide
    · unfold Txt.islower
      rw [any_list, any_list, hll, Bool.and_eq_true]
      refine ⟨List.any_eq_true.mpr ⟨c0 + 32, List.mem_map.mpr ⟨c0, hc0, rfl⟩, (sev_case c0 (hs c0 hc0)).2.2.2.2.1⟩, ?_⟩
      rw [Bool.not_eq_true', List.any_eq_false]
      intro c hc
      obtain ⟨d, hd, rfl⟩ := List.mem_map.mp hc
      obtain ⟨-, -, -, q4, q5, q6⟩ := sev_case d (hs d hd)
      rw [q4, q6]
      decide
    · rw [hupp]; omega
    · rw [hupp]; omega
    · rw [hupp]; exact ha1
    · rw [hupp]; exact hB
end
end
section
def Inv (t l r : Str) (n : Int) (j : Nat) : Prop :=
  ∃ vt vl vr i : Nat, LV t vt ∧ LV l vl ∧ LV r vr ∧ vl * vr + vt = n.toNat ∧ 1 ≤ n ∧ n ≤ 4999 ∧ r.length ≤ 24 ∧ t.length + 24 * i ≤ 264 ∧ vl < 2 ^ i ∧ vl ≤ 1300 ∧ j = vl
theorem len_app (a b : Str) : (a ++ b).length = a.length + b.length := by
  show (a.cps ++ b.cps).size = _
  rw [Array.size_append]; rfl
theorem letters_nil {l : Str} : l.length = 0 → LV l 0 := by
  intro h
  have e : l = Str.ofString "" := by
    cases l with
    | mk c =>
      have : c = #[] := Array.eq_empty_of_size_eq_zero h
      subst this
      rfl
  rw [e]; exact lv_nil
theorem lv_fun {l : Str} {a b : Nat} (h : LV l a) (h' : LV l b) : a = b := h.2.symm.trans h'.2
theorem law_facts {r1 r2 r3 q r4 : Int} (h1 : r1 < 2499) (h2 : r2 < 2500) (h3 : (1 + r3) * q ≤ 4999) (h3' : r3 < 1250) (h4 : r4 < q) (z1 : 0 ≤ r1) (z2 : 0 ≤ r2) (z3 : 0 ≤ r3) (z4 : 0 ≤ r4) :
    (opened (upperS (1 + r1)) ++ opened (upperS (1 + r2))).length ≤ 1000 ∧ WPre (gathered (opened (upperS (1 + r1)) ++ opened (upperS (1 + r2)))) (1 + r1 + (1 + r2)) ∧ (opened (upperS (1 + r1))).length ≤ 24 ∧ (opened (upperS (1 + r2))).length ≤ 24 ∧
    ∃ j, Inv (Str.ofString "") (opened (upperS (1 + r3))) (opened (upperS (1 + r4))) ((1 + r3) * (1 + r4)) j := by
  have hq : q ≤ 4999 := by
    have : 1 * q ≤ (1 + r3) * q := Int.mul_le_mul_of_nonneg_right (by omega) (by omega)
    omega
  obtain ⟨a1, a2⟩ := op_up (n := 1 + r1) (by omega) (by omega)
  obtain ⟨b1, b2⟩ := op_up (n := 1 + r2) (by omega) (by omega)
  obtain ⟨c1, c2⟩ := op_up (n := 1 + r3) (by omega) (by omega)
  obtain ⟨d1, d2⟩ := op_up (n := 1 + r4) (by omega) (by omega)
  have e : (((1 + r1).toNat + (1 + r2).toNat : Nat) : Int) = 1 + r1 + (1 + r2) := by omega
  refine ⟨by rw [len_app]; omega, ?_, a2, b2, (1 + r3).toNat, 0, (1 + r3).toNat, (1 + r4).toNat, 11, lv_nil, c1, d1, ?_, ?_, ?_, d2, ?_, by omega, by omega, rfl⟩
  · rw [ga (lv_app a1 b1) (by omega) (by omega), e]
    exact wpre (by omega) (by omega)
  · rw [Int.toNat_mul (by omega) (by omega)]; rfl
  · have : 1 * 1 ≤ (1 + r3) * (1 + r4) := Int.mul_le_mul (by omega) (by omega) (by omega) (by omega)
    omega
  · have : (1 + r3) * (1 + r4) ≤ (1 + r3) * q := Int.mul_le_mul_of_nonneg_left (by omega) (by omega)
    omega
  · have := len_empty
    omega
theorem inv_step {t l r : Str} {n : Int} {j : Nat} (h : Inv t l r n j) (hl : l.length ≠ 0) :
    (l.length ≤ 1300 ∧ ∀ c ∈ lettersOf l, c ∈ seven) ∧ (r ++ r).length ≤ 1000 ∧ (gathered (r ++ r)).length ≤ 100 ∧ t.length ≤ 264 ∧ r.length ≤ 24 ∧
    (halvedB l = true → ∃ j', j' < j ∧ Inv (t ++ r) (halvedS l) (opened (gathered (r ++ r))) n j') ∧
    (halvedB l = false → ∃ j', j' < j ∧ Inv (t ++ Str.ofString "") (halvedS l) (opened (gathered (r ++ r))) n j') := by
  obtain ⟨vt, vl, vr, i, ht, hl', hr, e, n1, n2, lr, lt, li, hvl, hj⟩ := h
  have hv : vl ≠ 0 := by
    intro q
    have := lv_len hl'
    omega
  obtain ⟨k1, k2⟩ := lv_half hl'
  have hi : i ≠ 0 := by
    rintro rfl
    simp at li
    omega
  obtain ⟨i, rfl⟩ := Nat.exists_eq_succ_of_ne_zero hi
  have m1 : vr ≤ vl * vr := Nat.le_mul_of_pos_left _ (by omega)
  obtain ⟨o1, o2, o3⟩ := op_ga (lv_app hr hr) (by omega)
  have li' : vl / 2 < 2 ^ i := by
    rw [Nat.pow_succ] at li
    omega
  have hd := Nat.div_add_mod vl 2
  refine ⟨⟨Nat.le_trans (lv_len hl') hvl, lv_seven hl'⟩, by rw [len_app]; omega, o3, by omega, lr, fun hb => ⟨vl / 2, by omega, vt + vr, vl / 2, vr + vr, i, lv_app ht hr, k1, o1, ?_, n1, n2, o2, by rw [len_app]; omega, li', by omega, rfl⟩,
    fun hb => ⟨vl / 2, by omega, vt + 0, vl / 2, vr + vr, i, lv_app ht lv_nil, k1, o1, ?_, n1, n2, o2, ?_, li', by omega, rfl⟩⟩
  · rw [k2, beq_iff_eq] at hb
    have : vl * vr = (2 * (vl / 2) + 1) * vr := by rw [← hb, hd]
    rw [← e, this, Nat.add_mul, Nat.mul_add, Nat.mul_assoc]
    omega
  · rw [k2, beq_eq_false_iff_ne] at hb
    have hb' : vl % 2 = 0 := by omega
    have : vl * vr = (2 * (vl / 2)) * vr := by
      rw [hb'] at hd
      rw [← hd]; simp
    rw [← e, this, Nat.mul_add, Nat.mul_assoc]
    omega
  · rw [len_app]
    have := len_empty
    omega
theorem inv_end {t l r : Str} {n : Int} {j : Nat} (h : Inv t l r n j) (hl : l.length = 0) : t.length ≤ 1000 ∧ WPre (gathered t) n := by
  obtain ⟨vt, vl, vr, i, ht, hl', hr, e, n1, n2, lr, lt, li, hvl, hj⟩ := h
  have := lv_fun hl' (letters_nil hl)
  subst this
  have e' : vt = n.toNat := by omega
  refine ⟨by omega, ?_⟩
  rw [ga ht (by omega) (by omega), e', Int.toNat_of_nonneg (by omega)]
  exact wpre n1 n2
theorem inv_len {t l r : Str} {n : Int} {j : Nat} (h : Inv t l r n j) : l.length ≤ 1300 := by
  obtain ⟨vt, vl, vr, i, ht, hl', hr, e, n1, n2, lr, lt, li, hvl, hj⟩ := h
  exact Nat.le_trans (lv_len hl') hvl
theorem ne_of_test {l : Str} (h : ((l.length : Int) != 0) = true) : l.length ≠ 0 := by
  intro e
  rw [e] at h
  exact absurd h (by decide)
theorem eq_of_test {l : Str} (h : ((l.length : Int) != 0) = false) : l.length = 0 := by
  rcases Nat.eq_zero_or_pos l.length with e | e
  · exact e
  · have : (l.length : Int) ≠ 0 := by omega
    rw [bne_eq_false_iff_eq] at h
    exact absurd h this
end
section
local macro_rules | `(tactic| walk_at "call ref") => `(tactic| (k_here; (with_reducible show wpAny _ _ (call (Value.ref 95) _) _ _ _); k_dflt (refine' make_ok _ _ _ _ _ _ _ _ _ _ _ _ _ _ _ _ _ _ _ _ _ _ _ _ ?k1 ?k2 ?k3 ?k4 ?k5 ?kK ?kp ?kd ?ku ?_; (case k1 => k_asm); (case k2 => k_asm); (case k3 => k_asm); (case k4 => k_asm); (case k5 => k_asm); (case kK => exact rfl); (case kp => exact And.intro (by omega) (by omega)); (case kd => ktr_room); (case ku => ktr_units)); intro x9 dx9 hs9 kt9 nt9 ep9 h9 tk9 F9 N9 l9 l9'; (try k_lt l9); (try k_lt2 l9'); (try dsimp only); (try k_fold)))
local macro_rules | `(tactic| walk_at "call ref") => `(tactic| (k_here; (with_reducible show wpAny _ _ (call (Value.ref 77) _) _ _ _); k_dflt (refine' upper_ok _ _ _ _ _ _ _ _ _ _ _ _ _ _ _ _ _ _ _ _ _ _ _ _ _ _ _ _ _ ?k1 ?k2 ?k3 ?k4 ?k5 ?kK ?kp ?kd ?ku ?_; (case k1 => k_asm); (case k2 => k_asm); (case k3 => k_asm); (case k4 => k_asm); (case k5 => k_asm); (case kK => exact rfl); (case kp => exact ⟨by k_mem, by k_mem, by omega, by omega⟩); (case kd => ktr_room); (case ku => ktr_units)); intro t9 h9 tk9 F9 N9; (try dsimp only); (try k_fold)))
local macro_rules | `(tactic| walk_at "call ref") => `(tactic| (k_here; (with_reducible show wpAny _ _ (call (Value.ref 128) _) _ _ _); k_dflt (refine' opened_ok _ _ _ _ _ _ _ _ _ _ _ _ _ _ _ _ _ _ _ _ _ _ _ _ ?k1 ?k2 ?k3 ?k4 ?k5 ?kK ?kp ?kd ?ku ?_; (case k1 => k_asm); (case k2 => k_asm); (case k3 => k_asm); (case k4 => k_asm); (case k5 => k_asm); (case kK => exact rfl); (case kp => with_reducible assumption); (case kd => ktr_room); (case ku => ktr_units)); intro t9 h9 tk9 F9 N9; (try dsimp only); (try k_fold)))
local macro_rules | `(tactic| walk_at "call ref") => `(tactic| (k_here; (with_reducible show wpAny _ _ (call (Value.ref 135) _) _ _ _); k_dflt (refine' gathered_ok _ _ _ _ _ _ _ _ _ _ _ _ _ _ _ _ _ _ _ _ _ _ _ _ ?k1 ?k2 ?k3 ?k4 ?k5 ?kK ?kp ?kd ?ku ?_; (case k1 => k_asm); (case k2 => k_asm); (case k3 => k_asm); (case k4 => k_asm); (case k5 => k_asm); (case kK => exact rfl); (case kp => with_reducible assumption); (case kd => ktr_room); (case ku => ktr_units)); intro t9 h9 tk9 F9 N9; (try dsimp only); (try k_fold)))
local macro_rules | `(tactic| walk_at "call ref") => `(tactic| (k_here; (with_reducible show wpAny _ _ (call (Value.ref 142) _) _ _ _); k_dflt (refine' halved_ok _ _ _ _ _ _ _ _ _ _ _ _ _ _ _ _ _ _ _ _ _ _ _ _ ?k1 ?k2 ?k3 ?k4 ?k5 ?kK ?kp ?kd ?ku ?_; (case k1 => k_asm); (case k2 => k_asm); (case k3 => k_asm); (case k4 => k_asm); (case k5 => k_asm); (case kK => exact rfl); (case kp => with_reducible assumption); (case kd => ktr_room); (case ku => ktr_units)); intro T9 u9 h9 tk9 F9 N9 l9; (try k_lt l9); (try dsimp only); (try k_fold)))
local macro_rules | `(tactic| walk_at "call ref") => `(tactic| (k_here; (with_reducible show wpAny _ _ (call (Value.ref 149) _) _ _ _); k_dflt (refine' written_ok _ _ _ _ _ _ _ _ _ _ _ _ _ _ _ _ _ _ _ _ _ _ _ _ _ _ ?k1 ?k2 ?k3 ?k4 ?k5 ?kK ?kp ?kd ?ku ?_; (case k1 => k_asm); (case k2 => k_asm); (case k3 => k_asm); (case k4 => k_asm); (case k5 => k_asm); (case kK => exact rfl); (case kp => with_reducible assumption); (case kd => ktr_room); (case ku => ktr_units)); intro t9 h9 tk9 F9 N9; (try dsimp only); (try k_fold)))
local macro_rules | `(tactic| walk_at "binaryOp Mod int int") => `(tactic| ((fail_if_success (with_reducible show wpAny _ _ (binaryOp _ _ (Value.int 10007 _)) _ _ _)); k_dflt (refine mod_step (by omega) ?_); intro r' hr' hr0' hr1'))
local macro_rules | `(tactic| walk_at "binaryOp FloorDiv int int") => `(tactic| (k_dflt (refine div4999_step (by omega) (by omega) ?_); intro q' hq' hq0' hq1' hq2'))
local macro_rules | `(tactic| walk_at "exec Assign cons ListComp") => `(tactic| (k_here; (with_reducible show wpAny _ _ (exec (Stmt.Assign _ (Expr.ListComp (Expr.Call _ _ _ _) _ _ _) _) _) _ _ _); k_dflt (refine' assign_comp_tup ?h0 ?h1 ?h2 ?h3 ?h4 ?h5 ?h6 ?h7 ?h8 ?h9 ?_ ?h11; (case h0 => k_asm); (case h1 => exact rfl); (case h2 => with_unfolding_all exact rfl); (case h3 => with_unfolding_all exact rfl); (case h4 => decide); (case h5 => exact rfl); (case h6 => decide); (case h7 => exact rfl); (case h8 => exact rfl); (case h9 => exact rfl); (case h11 => intro _; rfl))))
local macro_rules | `(tactic| walk_at "TupSrc") => `(tactic| (refine hold_of ?_))
local macro_rules | `(tactic| walk_at "exec While Name cons nil") => `(tactic| k_dflt (refine whl_start_hold ?_))
local macro_rules | `(tactic| walk_at "WhlPost") => `(tactic| k_dflt (refine whlPost_hold ?_))
local macro_rules | `(tactic| walk_at "WhlIf") => `(tactic| (refine whlIf_split ?_ ?_ <;> intro hb' <;> refine hold_of ?_))
local macro_rules | `(tactic| walk_at "binaryOp Add str str") => `(tactic| (k_dflt (refine add_step (by first | with_reducible assumption | exact len_empty) (by first | with_reducible assumption | exact len_empty) (by omega) ?_); intro t' k' hl'))
local macro_rules | `(tactic| walk_at "truthy str") => `(tactic| k_dflt (refine SBL.truthy (by omega) ?_))
theorem law_row : PySem.Challenge.rw_ft0007_01.Holds := hd (by
  k_go0
  all_goals try k_fold
  w_strict (k_steps)
  refine hold_mk ?_
  refine tup_src_str (fun k => opened (upperS k)) (by rfl) (by with_reducible assumption) (by with_reducible assumption) (.head _) (.cons _ _ (.cons _ _ (.cons _ _ (.cons _ _ .nil)))) (by exact Nat.le_of_ble_eq_true rfl) ?_ ?_
  · intro k t ys I oI C oC D m2 hh2 tkk E' hk hns hmx F7 N7
    simp only [List.mem_cons, List.mem_nil_iff, or_false] at hk
    have hk1 : 1 ≤ k := by omega
    have hk2 : k ≤ 4999 := by omega
    have hlen := up_len hk1 hk2
    clear hk
    w_strict (k_steps)
    exact hold_mk ⟨_, _, _, rfl, rfl, by with_reducible assumption, news_sub (by with_reducible assumption) fun p hp => .tail _ (.tail _ hp)⟩
  · intro ys g hys D h7 tk7 F7 N7 off7
    simp only [List.map] at hys
    rcases hys with _ | ⟨_, tA, _ | ⟨_, tB, _ | ⟨_, tC, _ | ⟨_, tD, _ | _⟩⟩⟩⟩
    rename (@LT.lt Int _ _ 2499) => hr1
    rename (@LT.lt Int _ _ 2500) => hr2
    rename (@LT.lt Int _ _ 1250) => hr3
    rename (@LE.le Int _ ((1 + _) * _) 4999) => hr34
    rename (@LT.lt Int _ _ _) => hr4
    obtain ⟨hf1, hf2, hf3, hf4, j0, hf5⟩ := law_facts hr1 hr2 hr34 hr3 hr4 (by omega) (by omega) (by omega) (by omega)
    w_strict (k_steps)
    unfold Hold
    refine whl_ind3 (by with_reducible assumption) (news_sub (b := []) (by with_reducible assumption) (fun p hp => nomatch hp)) (fun j m1 led => ∃ (t : Str) (tt : Tok) (l : Str) (tl : Tok) (r : Str) (tr t3 t4 : Tok), led = [] ∧ m1 (Str.ofString "total") = some (.str t tt) ∧ m1 (Str.ofString "left") = some (.str l tl) ∧ m1 (Str.ofString "right") = some (.str r tr) ∧
      m1 (Str.ofString "three") = some (.int _ t3) ∧ m1 (Str.ofString "four") = some (.int _ t4) ∧ Inv t l r _ j) j0 ⟨_, _, _, _, _, _, _, _, rfl, rfl, rfl, rfl, rfl, rfl, hf5⟩ ?_
    clear hf1 hf2 hf3 hf4 hf5
    clear F7 N7
    rintro j m1 led h1 tk1 ⟨t, tt, l, tl, r, tr, t3, t4, rfl, e1, e2, e3, e4, e5, hinv⟩ F9 N9 ihw
    have F3 := fr1 (fr4 F9 e1 e2 e3 e4) (n1 := Str.ofString "four") (by rw [if_neg (by decide +kernel), if_neg (by decide +kernel), if_neg (by decide +kernel), if_neg (by decide +kernel)]; exact e5)
    clear F9
    have hll := inv_len hinv
    refine whl_turn (by passes_own) ?_
    w_strict (k_steps)
    · have hne := ne_of_test (by with_reducible assumption)
      obtain ⟨g1, g2, g3, g4, g5, g6, g7⟩ := inv_step hinv hne
      unfold Hold
      w_strict (k_steps)
      · obtain ⟨j', hj, hI⟩ := g6 (by with_reducible assumption)
        unfold Hold
        refine ihw j' _ _ _ _ hj ?_ (by with_reducible assumption) (news_sub (b := []) (by with_reducible assumption) (fun p hp => nomatch hp))
        exact ⟨_, _, _, _, _, _, _, _, rfl, rfl, rfl, rfl, rfl, rfl, hI⟩
      · obtain ⟨j', hj, hI⟩ := g7 (by with_reducible assumption)
        unfold Hold
        refine ihw j' _ _ _ _ hj ?_ (by with_reducible assumption) (news_sub (b := []) (by with_reducible assumption) (fun p hp => nomatch hp))
        exact ⟨_, _, _, _, _, _, _, _, rfl, rfl, rfl, rfl, rfl, rfl, hI⟩
    · have heq := eq_of_test (by with_reducible assumption)
      obtain ⟨g1, g2⟩ := inv_end hinv heq
      unfold Hold
      w_strict (k_steps))
end
end Mine
theorem PySem.Challenge.cw_ft0007_01_holds : PySem.Challenge.rw_ft0007_01.Holds :=
  Mine.law_row
