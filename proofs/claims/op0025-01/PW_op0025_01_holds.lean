import PyProof.Rows.All
import Wide.All
import OpenK.AllK
import Wide.FinOn
import PySem.Challenge.RW_op0025_01
open PySem PySem.W PyProof.Rows
set_option Elab.async false
set_option maxRecDepth 100000
set_option maxHeartbeats 8000000
namespace Mine
section
open_top hd for PySem.Challenge.rw_op0025_01
end
section
example : True := by
  w_top off
  trivial

section
variable {prog : Program} {w : World} {A₀ A : Around} {s : Shared} {base h₀ : Heap} {outer : List Env} {L : Addr} {m : Str → Option Value} {env : Env} {K : Frag} {p : Program} {loose : List Str} {mean : ExcName → Option Value} {mg mb : Str → Option Value}
  {R : Result → Shared → Prop} {name qual : Str} {params : Arguments} {body : List Stmt} {scope : Scope} {dV kV doc pm cdv ct oc : Value} {an od : Option Addr} {osl : Array (Option Value)} {f : Addr} {args : Args} {binds : List (Str × Value)}

theorem callG_plain (B : Below A₀ base outer h₀) (F : Fr h₀ L s.heap m) (X₀ : K.In h₀) (T : Top p loose mean mg mb h₀) (hA : A.frames = some (env :: outer)) (hf : env.frame = some L) (hke : env.scope.kind = .function)
    (ho : K.lookup f = some ⟨oc, od, .func (fnOf name qual params body scope dV kV doc pm an cdv ct), osl⟩) (hcd : codeIn K cdv qual = true) (hroom : A.depth < recursionLimit)
    (hbind : BindsTo s (fnOf name qual params body scope dV kV doc pm an cdv ct) args binds) (hloc : ∀ y ∈ binds, scope.names.lookup y.1 = some .local)
    (h : ∀ L' h₁, Fr s.heap L' h₁ (fun y => binds.reverse.lookup y) → News s.heap L' h₁ [] → Below A base (env :: outer) s.heap → K.In s.heap → Top p loose mean mg mb s.heap →
      wpAny (model prog w) (A.deeper (envOf qual scope L' f cdv)) (execs body (envOf qual scope L' f cdv))
        (fun fl s' => R (.ok (.ret (match fl with | .ret v => v | _ => .none))) s')
        (fun e s' => wpAny (model prog w) (A.deeper (envOf qual scope L' f cdv)) (leaving (envOf qual scope L' f cdv) e) (fun _ s'' => R (.error e) s'') (fun e' s'' => R (.error e') s'') s')
        { s with heap := h₁, toks := s.toks + binds.length })
    (hco : scope.isCoroutine = false) (hgen : scope.isGenerator = false) (hk : scope.kind = .function)
    (hcell : ∀ x ∈ scope.names, x.2 ≠ .cell) : codeAny (model prog w) A (.call (.ref f) args) R s := by
  obtain ⟨FG, BG, st, lv⟩ := groundX (R := R) (news := []) B F News.nil hA hf hke
  refine codeAny_call_def (fd := fnX name qual params body scope [] dV kV doc pm an cdv ct) (body := body) (binds := binds) hroom ((X₀.keeps F.keep) _ _ ho) rfl (T.nolimit.keeps F.keep) (codeRec_of (X₀.keeps F.keep) hcd) rfl hbind hcell hloc (fun h₁ hns hk₁ => ?_) hco hgen hk
  exact h s.heap.objs.size h₁ ⟨hns, fun b o e => hk₁ b o e, Nat.le_refl _⟩ News.nil BG (X₀.keeps st) (T.keeps st)

theorem callG_cells (B : Below A₀ base outer h₀) (F : Fr h₀ L s.heap m) (X₀ : K.In h₀) (T : Top p loose mean mg mb h₀) (hA : A.frames = some (env :: outer)) (hf : env.frame = some L) (hke : env.scope.kind = .function)
    (ho : K.lookup f = some ⟨oc, od, .func (fnOf name qual params body scope dV kV doc pm an cdv ct), osl⟩) (hcd : codeIn K cdv qual = true) (hroom : A.depth < recursionLimit)
    (hbind : BindsTo s (fnOf name qual params body scope dV kV doc pm an cdv ct) args binds) (hkind : (binds.all fun y => scope.names.lookup y.1 == some .local || scope.names.lookup y.1 == some .cell) = true)
    (hnd : ((cellsFrom 0 scope.names []).map (·.1)).Nodup)
    (h : ∀ L' h₁ tk cells, Fr s.heap L' h₁ (bindL (envOfC qual scope L' f cdv).kindOf binds fun _ => none) → News s.heap L' h₁ (cells ++ []) →
      CellsAre (bindC (envOfC qual scope L' f cdv).kindOf binds fun _ => none) (cellsFrom (L' + 1) scope.names []) cells → Below A base (env :: outer) s.heap → K.In s.heap → Top p loose mean mg mb s.heap →
      wpAny (model prog w) (A.deeper (envOfC qual scope L' f cdv)) (execs body (envOfC qual scope L' f cdv))
        (fun fl s' => R (.ok (.ret (match fl with | .ret v => v | _ => .none))) s')
        (fun e s' => wpAny (model prog w) (A.deeper (envOfC qual scope L' f cdv)) (leaving (envOfC qual scope L' f cdv) e) (fun _ s'' => R (.error e) s'') (fun e' s'' => R (.error e') s'') s')
        { s with heap := h₁, toks := tk })
    (hco : scope.isCoroutine = false) (hgen : scope.isGenerator = false) (hk : scope.kind = .function) : codeAny (model prog w) A (.call (.ref f) args) R s := by
  obtain ⟨FG, BG, st, lv⟩ := groundX (R := R) (news := []) B F News.nil hA hf hke
  refine codeAny_call_function (fd := fnX name qual params body scope [] dV kV doc pm an cdv ct) hroom ((X₀.keeps F.keep) _ _ ho) rfl hco hgen rfl (codeRec_of (X₀.keeps F.keep) hcd) (hbind _ _ _ _ ?_)
  refine wpAny_newFunctionEnv_cells hk (kindsX hkind _) fun env' he s' x => ?_
  subst he
  refine ⟨(T.nolimit.keeps F.keep).keeps x.toInCall.keep, codeAny_func ?_⟩
  obtain ⟨h₁, tk, rfl, _⟩ := x.done
  have hk₁ := x.toInCall.keep
  obtain ⟨cells, NC, Y⟩ := Cl.news (h₀ := s.heap) (Nat.le_refl _) fun n c hm => ⟨x.cell n c (lookup_of_mem_nodup (cellsFrom_names scope.names 0 (s.heap.objs.size + 1) [] [] rfl ▸ hnd) hm), x.above n c hm⟩
  exact h s.heap.objs.size h₁ tk cells ⟨x.toInCall.ns, fun b o e => hk₁ b o e, Nat.le_refl _⟩ (by rw [List.append_nil]; exact NC) Y BG (X₀.keeps st) (T.keeps st)
end

/-- The call of the def at `f` with `vs`: the heap only grows; `post` says what comes back. -/
def Claim (w : World) (f : Addr) (d : Nat) (vs : List Value) (kw : List (Str × Value)) (pre : Heap → Prop) (post : Heap → Heap → Value → Prop) : Prop :=
  ∀ (prog p : Program) (loose : List Str) (mean : ExcName → Option Value) (mg mb : Str → Option Value) (dp un : Nat) (gd : Option (List Code)) (cn : Str) (cs : Scope) (a : Addr) (ccd : Value) (cl : List (Str × Addr)) (outer : List Env) (A₀ : Around) (base h₀ : Heap) (L : Addr) (m : Str → Option Value) (s : Shared) (Q E : Value → Shared → Prop),
    Below A₀ base outer h₀ → Fr h₀ L s.heap m → (hd.heap_39 w.params).In h₀ → Top p loose mean mg mb h₀ → cs.kind = .function → pre s.heap → dp + d < recursionLimit → un + 8 * d < cLine →
    (∀ v h' tk', s.heap.StaysIn h' → post s.heap h' v → Q v { s with heap := h', toks := tk' }) →
    wpAny (model prog w) (ktrTop dp un gd cn cs L a ccd cl outer) (call (.ref f) vs kw) Q E s

end
section
example : True := by
  w_top off
  trivial

/-- the 64 signs -/
noncomputable def sgn : Str := Str.ofString "ABCDEFGHIJKLMNOPQRSTUVWXYZabcdefghijklmnopqrstuvwxyz0123456789+/"
noncomputable def tab (i : Int) : Nat := (Str.ofString "ABCDEFGHIJKLMNOPQRSTUVWXYZabcdefghijklmnopqrstuvwxyz0123456789+/").cps.getD i.toNat 0
theorem tab_all : ∀ i : Fin 64, Txt.item (Str.ofString "ABCDEFGHIJKLMNOPQRSTUVWXYZabcdefghijklmnopqrstuvwxyz0123456789+/") ((i.1 : Nat) : Int) = ⟨#[tab ((i.1 : Nat) : Int)]⟩ := by decide +kernel
theorem item_tab {i : Int} (h0 : 0 ≤ i) (h1 : i < 64) : Txt.item (Str.ofString "ABCDEFGHIJKLMNOPQRSTUVWXYZabcdefghijklmnopqrstuvwxyz0123456789+/") i = ⟨#[tab i]⟩ := by
  have h := tab_all ⟨i.toNat, by omega⟩
  have e : ((i.toNat : Nat) : Int) = i := Int.toNat_of_nonneg h0
  simpa only [e] using h
theorem len_sgn : (Str.ofString "ABCDEFGHIJKLMNOPQRSTUVWXYZabcdefghijklmnopqrstuvwxyz0123456789+/").length = 64 := by decide +kernel

/-- the three signs of an octal figure, as codes -/
noncomputable def oct (i : Int) : List Nat := [if i / 4 % 2 = 1 then 114 else 45, if i / 2 % 2 = 1 then 119 else 45, if i % 2 = 1 then 120 else 45]
noncomputable def octS (i : Int) : Str := ⟨(oct i).toArray⟩
/-- the text of three figures -/
noncomputable def txt (B a b c : Int) : Str := if B = 8 then ⟨(45 :: (oct a ++ oct b ++ oct c)).toArray⟩ else ⟨#[65, tab a, tab b, tab c]⟩

noncomputable def fig (a b c k : Int) : Int := if k = 0 then a else if k = 1 then b else c
theorem slice_txt {a b c k W V : Int} (hW : W = 1) (hV : V = 1) (h0 : 0 ≤ k) (h1 : k < 3) : Txt.slice ⟨#[65, tab a, tab b, tab c]⟩ (some (1 + W * k)) (some (1 + W * k + V)) = ⟨#[tab (fig a b c k)]⟩ := by
  subst hW hV
  have hk : k = 0 ∨ k = 1 ∨ k = 2 := by omega
  rcases hk with rfl | rfl | rfl <;> rfl
theorem slice_oct {a b c k W V : Int} (hW : W = 3) (hV : V = 3) (h0 : 0 ≤ k) (h1 : k < 3) : Txt.slice (txt 8 a b c) (some (1 + W * k)) (some (1 + W * k + V)) = octS (fig a b c k) := by
  have e : txt 8 a b c = ⟨(45 :: (oct a ++ oct b ++ oct c)).toArray⟩ := rfl
  rw [e]
  subst hW hV
  have hk : k = 0 ∨ k = 1 ∨ k = 2 := by omega
  rcases hk with rfl | rfl | rfl <;> rfl

theorem fig_lo {a b c k : Int} (ha : 0 ≤ a) (hb : 0 ≤ b) (hc : 0 ≤ c) : 0 ≤ fig a b c k := by
  unfold fig
  split
  · exact ha
  · split
    · exact hb
    · exact hc
theorem fig_hi {B a b c k : Int} (ha : a < B) (hb : b < B) (hc : c < B) : fig a b c k < B := by
  unfold fig
  split
  · exact ha
  · split
    · exact hb
    · exact hc
theorem txt_ne {B a b c : Int} (h : B = 16 ∨ B = 64) : (⟨#[65, tab a, tab b, tab c]⟩ : Str) = txt B a b c := by rcases h with rfl | rfl <;> rfl
theorem ne_8 {B : Int} (h : B = 16 ∨ B = 64) : B ≠ 8 ∧ B ≤ 64 := by rcases h with rfl | rfl <;> decide
theorem figs_end {ys : List Value} {a b c : Int} (h : IntsAre ys (List.map (fun k' => fig a b c k') (rangeKs 0 ((3 : Int) - 0).toNat))) : ∃ ta tb tc, ys = [Value.int a ta, Value.int b tb, Value.int c tc] := by
  have h' : IntsAre ys [a, b, c] := h
  cases h' with
  | cons _ ta h1 => cases h1 with
    | cons _ tb h2 => cases h2 with
      | cons _ tc h3 => cases h3; exact ⟨ta, tb, tc, rfl⟩

theorem ix0 {x : Int} (h0 : 0 ≤ x) (h1 : x < 256) : ((0 * 256 + x) % 65536).fdiv (2 ^ ((0 : Int) + 8 - 6).toNat) % 64 = x / 4 := by
  show ((0 * 256 + x) % 65536).fdiv 4 % 64 = x / 4
  rw [Int.fdiv_eq_ediv_of_nonneg _ (by decide)]
  omega
theorem ix1 {x y : Int} (h0 : 0 ≤ x) (h1 : x < 256) (h2 : 0 ≤ y) (h3 : y < 256) : (((0 * 256 + x) % 65536 * 256 + y) % 65536).fdiv (2 ^ ((0 : Int) + 8 - 6 + 8 - 6).toNat) % 64 = x % 4 * 16 + y / 16 := by
  show (((0 * 256 + x) % 65536 * 256 + y) % 65536).fdiv 16 % 64 = _
  rw [Int.fdiv_eq_ediv_of_nonneg _ (by decide)]
  omega
theorem ix2 {x y z : Int} (h0 : 0 ≤ x) (h1 : x < 256) (h2 : 0 ≤ y) (h3 : y < 256) (h4 : 0 ≤ z) (h5 : z < 256) : ((((0 * 256 + x) % 65536 * 256 + y) % 65536 * 256 + z) % 65536).fdiv (2 ^ ((0 : Int) + 8 - 6 + 8 - 6 + 8 - 6).toNat) % 64 = y % 16 * 4 + z / 64 := by
  show ((((0 * 256 + x) % 65536 * 256 + y) % 65536 * 256 + z) % 65536).fdiv 64 % 64 = _
  rw [Int.fdiv_eq_ediv_of_nonneg _ (by decide)]
  omega
theorem ix3 {x y z : Int} (h0 : 0 ≤ x) (h1 : x < 256) (h2 : 0 ≤ y) (h3 : y < 256) (h4 : 0 ≤ z) (h5 : z < 256) : ((((0 * 256 + x) % 65536 * 256 + y) % 65536 * 256 + z) % 65536).fdiv (2 ^ ((0 : Int) + 8 - 6 + 8 - 6 + 8 - 6 - 6).toNat) % 64 = z % 64 := by
  show ((((0 * 256 + x) % 65536 * 256 + y) % 65536 * 256 + z) % 65536).fdiv 1 % 64 = _
  rw [Int.fdiv_eq_ediv_of_nonneg _ (by decide)]
  omega

section
variable {prog : Program} {w : World} {A : Around} {E : Value → Shared → Prop} {s : Shared} {Q : Value → Shared → Prop}
theorem sgn_item {value slice : Expr} {t u : Tok} {i : Int} (h0 : 0 ≤ i) (h1 : i < 64) (h : Q (.str ⟨#[tab i]⟩ s.toks) { s with toks := s.toks + 1 })
    (hs : subscripted slice false (.str (Str.ofString "ABCDEFGHIJKLMNOPQRSTUVWXYZabcdefghijklmnopqrstuvwxyz0123456789+/") t) (.int i u) = operate [.str (Str.ofString "ABCDEFGHIJKLMNOPQRSTUVWXYZabcdefghijklmnopqrstuvwxyz0123456789+/") t, .int i u] (getItem (.str (Str.ofString "ABCDEFGHIJKLMNOPQRSTUVWXYZabcdefghijklmnopqrstuvwxyz0123456789+/") t) (.int i u)))
    (ht : ∀ r, letTemporaryGo value (.str (Str.ofString "ABCDEFGHIJKLMNOPQRSTUVWXYZabcdefghijklmnopqrstuvwxyz0123456789+/") t) r = pure ()) :
    wpAny (model prog w) A (subscriptTail value slice (.str (Str.ofString "ABCDEFGHIJKLMNOPQRSTUVWXYZabcdefghijklmnopqrstuvwxyz0123456789+/") t) (.int i u)) Q E s := by
  have hl := len_sgn
  refine item_str (fitsSsize_of (N := 9223372036854775808) (by omega) (by omega) (Int.le_refl _)) (by omega) (by omega) (fun _ => ?_) hs ht
  rw [item_tab h0 h1]
  exact h

theorem octS_all : octS 0 = Str.ofString "---" ∧ octS 1 = Str.ofString "--x" ∧ octS 2 = Str.ofString "-w-" ∧ octS 3 = Str.ofString "-wx" ∧ octS 4 = Str.ofString "r--" ∧ octS 5 = Str.ofString "r-x" ∧ octS 6 = Str.ofString "rw-" ∧ octS 7 = Str.ofString "rwx" := by decide +kernel
theorem oct_item {value slice : Expr} {l : Addr} {u t0 t1 t2 t3 t4 t5 t6 t7 : Tok} {i : Int} (hl : s.heap.IsList l [Value.str (Str.ofString "---") t0, Value.str (Str.ofString "--x") t1, Value.str (Str.ofString "-w-") t2, Value.str (Str.ofString "-wx") t3, Value.str (Str.ofString "r--") t4, Value.str (Str.ofString "r-x") t5, Value.str (Str.ofString "rw-") t6, Value.str (Str.ofString "rwx") t7].toArray)
    (h0 : 0 ≤ i) (h1 : i < 8) (h : ∀ t, Q (.str (octS i) t) s)
    (hs : subscripted slice false (.ref l) (.int i u) = operate [.ref l, .int i u] (getItem (.ref l) (.int i u))) :
    wpAny (model prog w) A (subscriptTail value slice (.ref l) (.int i u)) Q E s := by
  have key : ∃ t, [Value.str (Str.ofString "---") t0, Value.str (Str.ofString "--x") t1, Value.str (Str.ofString "-w-") t2, Value.str (Str.ofString "-wx") t3, Value.str (Str.ofString "r--") t4, Value.str (Str.ofString "r-x") t5, Value.str (Str.ofString "rw-") t6, Value.str (Str.ofString "rwx") t7][i.toNat]? = some (.str (octS i) t) := by
    obtain ⟨e0, e1, e2, e3, e4, e5, e6, e7⟩ := octS_all
    have hi : i = 0 ∨ i = 1 ∨ i = 2 ∨ i = 3 ∨ i = 4 ∨ i = 5 ∨ i = 6 ∨ i = 7 := by omega
    rcases hi with rfl | rfl | rfl | rfl | rfl | rfl | rfl | rfl
    · rw [e0]; exact ⟨_, rfl⟩
    · rw [e1]; exact ⟨_, rfl⟩
    · rw [e2]; exact ⟨_, rfl⟩
    · rw [e3]; exact ⟨_, rfl⟩
    · rw [e4]; exact ⟨_, rfl⟩
    · rw [e5]; exact ⟨_, rfl⟩
    · rw [e6]; exact ⟨_, rfl⟩
    · rw [e7]; exact ⟨_, rfl⟩
  obtain ⟨t, key⟩ := key
  exact tail_any hl.typeIs slot_list_getitem.lookup (wpAny_getItem_list hl h0 (by omega) (by simpa using key) (h t)) hs

theorem idx_all : ∀ i : Fin 64, Builtin.Str.occurrences (Str.ofString "ABCDEFGHIJKLMNOPQRSTUVWXYZabcdefghijklmnopqrstuvwxyz0123456789+/") ⟨#[tab ((i.1 : Nat) : Int)]⟩ 0 (Str.ofString "ABCDEFGHIJKLMNOPQRSTUVWXYZabcdefghijklmnopqrstuvwxyz0123456789+/").length 1 = [i.1] := by decide +kernel
theorem eq_no {a b : Int} {t u : Tok} (hn : a ≠ b) (h : Q (.bool false) s) : wpAny (model prog w) A (compareOp .Eq (.int a t) (.int b u)) Q E s :=
  eq_int (by rw [beq_eq_false_iff_ne.mpr hn]; exact h)
theorem sgn_index {y : Str} {t u : Tok} {i : Int} (e : y = ⟨#[tab i]⟩) (h0 : 0 ≤ i) (h1 : i < 64) (h : Q (.int i s.toks) { s with toks := s.toks + 1 }) :
    wpAny (model prog w) A (call (.builtin "str.index") [.str (Str.ofString "ABCDEFGHIJKLMNOPQRSTUVWXYZabcdefghijklmnopqrstuvwxyz0123456789+/") t, .str y u]) Q E s := by
  subst e
  have hi := idx_all ⟨i.toNat, by omega⟩
  have e : ((i.toNat : Nat) : Int) = i := Int.toNat_of_nonneg h0
  simp only [e] at hi
  refine SC.index hi ?_
  rw [e]
  exact h

noncomputable def octL (t0 t1 t2 t3 t4 t5 t6 t7 : Tok) : List Value := [Value.str (Str.ofString "---") t0, Value.str (Str.ofString "--x") t1, Value.str (Str.ofString "-w-") t2, Value.str (Str.ofString "-wx") t3, Value.str (Str.ofString "r--") t4, Value.str (Str.ofString "r-x") t5, Value.str (Str.ofString "rw-") t6, Value.str (Str.ofString "rwx") t7]
noncomputable def octY : List Str := [Str.ofString "---", Str.ofString "--x", Str.ofString "-w-", Str.ofString "-wx", Str.ofString "r--", Str.ofString "r-x", Str.ofString "rw-", Str.ofString "rwx"]
theorem octL_are (t0 t1 t2 t3 t4 t5 t6 t7 : Tok) : StrsAre (octL t0 t1 t2 t3 t4 t5 t6 t7) octY :=
  .cons _ _ (.cons _ _ (.cons _ _ (.cons _ _ (.cons _ _ (.cons _ _ (.cons _ _ (.cons _ _ .nil)))))))
theorem isStr_at (k : Str) : ∀ {vs : List Value} {ys : List Str}, StrsAre vs ys → ∀ (j : Nat) (h1 : j < vs.length) (h2 : j < ys.length), isStrOf k vs[j] = (ys[j] == k)
  | _, _, .cons n t _, 0, _, _ => rfl
  | _, _, .cons n t r, j + 1, h1, h2 => isStr_at k r j (Nat.lt_of_succ_lt_succ h1) (Nat.lt_of_succ_lt_succ h2)
theorem octY_all : ∀ i : Fin 8, octS ((i.1 : Nat) : Int) = octY[i.1]'(i.2) ∧ ∀ j : Fin 8, j.1 < i.1 → (octY[j.1]'(j.2) == octS ((i.1 : Nat) : Int)) = false := by decide +kernel
theorem oct_index {l : Addr} {y : Str} {u t0 t1 t2 t3 t4 t5 t6 t7 : Tok} {i : Int} (hl : s.heap.IsList l [Value.str (Str.ofString "---") t0, Value.str (Str.ofString "--x") t1, Value.str (Str.ofString "-w-") t2, Value.str (Str.ofString "-wx") t3, Value.str (Str.ofString "r--") t4, Value.str (Str.ofString "r-x") t5, Value.str (Str.ofString "rw-") t6, Value.str (Str.ofString "rwx") t7].toArray)
    (e : y = octS i) (h0 : 0 ≤ i) (h1 : i < 8) (h : Q (.int i s.toks) { s with toks := s.toks + 1 }) :
    wpAny (model prog w) A (call (.builtin "list.index") [.ref l, .str y u]) Q E s := by
  subst e
  replace hl : s.heap.IsList l (octL t0 t1 t2 t3 t4 t5 t6 t7).toArray := hl
  have hi := octL_are t0 t1 t2 t3 t4 t5 t6 t7
  have e : ((i.toNat : Nat) : Int) = i := Int.toNat_of_nonneg h0
  obtain ⟨k1, k2⟩ := octY_all ⟨i.toNat, by omega⟩
  simp only [e] at k1 k2
  have hlen : (octL t0 t1 t2 t3 t4 t5 t6 t7).length = 8 := rfl
  have hlen' : octY.length = 8 := rfl
  obtain ⟨⟨cls, dd, data, sl⟩, ho, hc, n, hd⟩ := id hl
  simp only at hc hd
  subst hc hd
  refine call_meets PySem.F.slot_list_index ⟨_, ho, rfl⟩ PySem.F.entry_list_index (PySem.F.args_list_index_2 _ _)
    (PySem.SeqAt.list_indexAt l (octL t0 t1 t2 t3 t4 t5 t6 t7).toArray n dd sl (.str (octS i) u) (isStrOf (octS i)) i.toNat (by simp only [List.size_toArray, hlen]; omega) (by omega) ?_ ?_) ⟨ho, fun y hy => (eq_isStrOf (octS i) u hi y (by simpa using hy)).at _ _, ?_⟩
  · show isStrOf (octS i) (octL t0 t1 t2 t3 t4 t5 t6 t7)[i.toNat] = true
    rw [isStr_at (octS i) hi _ (by omega) (by omega)]
    exact beq_iff_eq.mpr k1.symm
  · intro j hjs hlt
    show isStrOf (octS i) (octL t0 t1 t2 t3 t4 t5 t6 t7)[j] = false
    rw [isStr_at (octS i) hi j (by simpa using hjs) (by omega)]
    exact k2 ⟨j, by omega⟩ hlt
  · rw [e]; exact h

theorem and_high (k : Nat) : ∀ a b : Int, 0 ≤ b → b < 2 ^ k → Builtin.bitAnd (a * 2 ^ k) b = 0 := by
  induction k with
  | zero =>
    intro a b h0 h1
    have e : b = 0 := by rw [Int.pow_zero] at h1; omega
    subst e
    have := bitAnd_range (a * 2 ^ 0) (y := 0) (Int.le_refl 0)
    omega
  | succ k ih =>
    intro a b h0 h1
    have e : a * (2 : Int) ^ (k + 1) = 2 * (a * 2 ^ k) := by rw [Int.pow_succ, ← Int.mul_assoc]; omega
    rw [Int.pow_succ] at h1
    have hi := ih a (b / 2) (by omega) (by omega)
    rw [e, kbt_halves]
    generalize a * (2 : Int) ^ k = x at *
    have h2 : (2 * x) / 2 = x := by omega
    have h3 : ¬ (2 * x % 2 = 1 ∧ b % 2 = 1) := by omega
    rw [if_neg h3, h2, hi]
    rfl
theorem or_byte {a b : Int} (h0 : 0 ≤ b) (h1 : b < 256) : Builtin.bitOr (a * 2 ^ Int.toNat 8) b = a * 256 + b := by
  have h := and_high 8 a b h0 (by omega)
  rw [bitOr_and]
  show a * 2 ^ 8 + b - Builtin.bitAnd (a * 2 ^ 8) b = _
  rw [h]
  omega
theorem or_byteR {a b : Int} {t u : Tok} (h0 : 0 ≤ b) (h1 : b < 256) (h : Q (.int (a * 256 + b) s.toks) { s with toks := s.toks + 1 }) : wpAny (model prog w) A (binaryOp .BitOr (.int (a * 2 ^ Int.toNat 8) t) (.int b u)) Q E s :=
  or_int (by rw [or_byte h0 h1]; exact h)
theorem and16R {a : Int} {t u : Tok} (h : Q (.int (a % 65536) s.toks) { s with toks := s.toks + 1 }) : wpAny (model prog w) A (binaryOp .BitAnd (.int a t) (.int 65535 u)) Q E s :=
  and_int (by rw [bitAnd_m16]; exact h)
theorem and6R {a : Int} {t u : Tok} (h : Q (.int (a % 64) s.toks) { s with toks := s.toks + 1 }) : wpAny (model prog w) A (binaryOp .BitAnd (.int a t) (.int 63 u)) Q E s :=
  and_int (by rw [bitAnd_m6]; exact h)
noncomputable def b64I : List Int := (Str.ofString "ABCDEFGHIJKLMNOPQRSTUVWXYZabcdefghijklmnopqrstuvwxyz0123456789+/").cps.toList.map fun c : Nat => Int.ofNat c
theorem b64I_all : ∀ i : Fin 64, b64I.getD i.1 0 = ((tab ((i.1 : Nat) : Int) : Nat) : Int) ∧ tab ((i.1 : Nat) : Int) < 128 := by decide +kernel
theorem tab_lt {i : Int} (h0 : 0 ≤ i) (h1 : i < 64) : tab i < 128 := by
  have h := (b64I_all ⟨i.toNat, by omega⟩).2
  have e : ((i.toNat : Nat) : Int) = i := Int.toNat_of_nonneg h0
  simpa only [e] using h
theorem b64_item {value slice : Expr} {b : Array UInt8} {t u : Tok} {i : Int} (hk : KBw.bInts b = b64I) (h0 : 0 ≤ i) (h1 : i < 64)
    (h : ∀ t' k, (tab i : Int) < 128 → Q (.int ((tab i : Nat) : Int) t') { s with toks := k })
    (hs : subscripted slice false (.bytes b t) (.int i u) = operate [.bytes b t, .int i u] (getItem (.bytes b t) (.int i u)))
    (ht : ∀ r, letTemporaryGo value (.bytes b t) r = pure ()) : wpAny (model prog w) A (subscriptTail value slice (.bytes b t) (.int i u)) Q E s := by
  have hl : b64I.length = 64 := by decide +kernel
  have h2 := (b64I_all ⟨i.toNat, by omega⟩).1
  have e : ((i.toNat : Nat) : Int) = i := Int.toNat_of_nonneg h0
  simp only [e] at h2
  refine KBw.item_K hk (by omega) h0 (by omega) (fun t' k _ _ => ?_) hs ht
  rw [h2]
  exact h t' k (by have := tab_lt h0 h1; omega)

theorem bytes4 {h₀ : Heap} {L l : Addr} {m : Str → Option Value} {news : List (Addr × Obj)} {a b c d : Int} {ta tb tc td : Tok} (F : Fr h₀ L s.heap m) (N : News h₀ L s.heap news) (hh : A.handled = none)
    (hl : s.heap.IsList l [Value.int a ta, Value.int b tb, Value.int c tc, Value.int d td].toArray) (ha : 0 ≤ a ∧ a < 256) (hb : 0 ≤ b ∧ b < 256) (hc : 0 ≤ c ∧ c < 256) (hd : 0 ≤ d ∧ d < 256)
    (h : ∀ h' t' k arr, Fr h₀ L h' m → News h₀ L h' news → KBw.bInts arr = [a, b, c, d] → Q (.bytes arr t') { s with heap := h', toks := k }) : wpAny (model prog w) A (call (.type "bytes") [.ref l]) Q E s := by
  have hr : KBa.In [a, b, c, d] := by
    intro n hn
    simp only [List.mem_cons, List.not_mem_nil, or_false] at hn
    rcases hn with rfl | rfl | rfl | rfl <;> assumption
  exact KBa.make_K F N hh hl (.cons _ _ (.cons _ _ (.cons _ _ (.cons _ _ .nil)))) hr (by simp) fun h' t' k F' N' hi => h h' t' k _ F' N' (KBa.ints_make hi)
theorem bytes3 {h₀ : Heap} {L l : Addr} {m : Str → Option Value} {news : List (Addr × Obj)} {a b c : Int} {ta tb tc : Tok} (F : Fr h₀ L s.heap m) (N : News h₀ L s.heap news) (hh : A.handled = none)
    (hl : s.heap.IsList l [Value.int a ta, Value.int b tb, Value.int c tc].toArray) (ha : 0 ≤ a ∧ a < 256) (hb : 0 ≤ b ∧ b < 256) (hc : 0 ≤ c ∧ c < 256)
    (h : ∀ h' t' k arr, Fr h₀ L h' m → News h₀ L h' news → KBw.bInts arr = [a, b, c] → Q (.bytes arr t') { s with heap := h', toks := k }) : wpAny (model prog w) A (call (.type "bytes") [.ref l]) Q E s := by
  have hr : KBa.In [a, b, c] := by
    intro n hn
    simp only [List.mem_cons, List.not_mem_nil, or_false] at hn
    rcases hn with rfl | rfl | rfl <;> assumption
  exact KBa.make_K F N hh hl (.cons _ _ (.cons _ _ (.cons _ _ .nil))) hr (by simp) fun h' t' k F' N' hi => h h' t' k _ F' N' (KBa.ints_make hi)

theorem join3 {D : Addr} {x : Str} {t t1 t2 t3 : Tok} {x1 x2 x3 : Str} (hl : s.heap.IsList D [Value.str x1 t1, Value.str x2 t2, Value.str x3 t3].toArray) (hx : x.length = 0) (h1 : x1.length ≤ 3) (h2 : x2.length ≤ 3) (h3 : x3.length ≤ 3)
    (h : ∀ t' k, Q (.str (Txt.join x [x1, x2, x3]) t') { s with toks := k }) : wpAny (model prog w) A (call (.builtin "str.join") [.str x t, .ref D]) Q E s :=
  join_listW hl (.cons _ _ (.cons _ _ (.cons _ _ .nil))) (by omega) (by simp only [List.map_cons, List.map_nil, List.sum_cons, List.sum_nil, List.length_cons, List.length_nil]; omega) h
end
end
section
example : True := by
  w_top off
  trivial
section
variable {prog : Program} {w : World} {A : Around} {E : Value → Shared → Prop} {s : Shared}

theorem nextOf_tup_item {it l : Addr} {i : Nat} {items : Array Value} {x : Value} {Q : Value → Shared → Prop} (hit : s.heap.IsTupleIter it l i)
    (hl : s.heap.IsTuple l items) (hx : items[i]? = some x)
    (hQ : ∀ h', h'.IsTupleIter it l (i + 1) → Heap.SameBut it s.heap h' → Q x { s with heap := h' }) :
    wpAny (model prog w) A (Builtin.SmallTypes.nextOf (.ref it)) Q E s := by
  obtain ⟨o, ho, hc, hd⟩ := id hit
  obtain ⟨ol, hol, _, nl, hdl⟩ := hl
  unfold Builtin.SmallTypes.nextOf
  refine wpAny_bind (wpAny_callSpecial?_slot (name := Str.ofString "__next__") hit.typeIs F.slot_tuple_iterator_next
    (wpAny_call_entry F.slot_tuple_iterator_next hit.typeIs F.entry_tuple_iterator_next ?_ (F.args_tuple_iterator_next_1 _)))
  show wpAny _ _ (field (.ref it) 0 >>= _) _ _ s
  refine wpAny_bind (wpAny_field ho hd (x := .ref l) rfl ?_)
  show wpAny _ _ (if (Value.ref l == Value.none) = true then _ else _) _ _ s
  rw [if_neg (show ¬ ((Value.ref l == Value.none) = true) from Bool.false_ne_true)]
  show wpAny _ _ (field (.ref it) 1 >>= _) _ _ s
  refine wpAny_bind (wpAny_field ho hd (x := .int i 0) rfl ?_)
  show wpAny _ _ (seqItems? (.ref l) >>= _) _ _ s
  refine wpAny_bind (wpAny_seqItems hol hdl ?_)
  simp only [Int.toNat_natCast, hx]
  refine wpAny_bind (wpAny_setField ho hd (by simp) (wpAny_pure ⟨x, rfl, wpAny_pure (hQ _ ?_ (Heap.SameBut.update ..))⟩))
  exact ⟨_, Heap.get?_update_self _ ho (Obj.isFreed_of_fields (Obj.data_mapFields hd _)), (Obj.cls_mapFields ..).trans hc, by
    rw [Obj.data_mapFields hd]; simp [rawInt]⟩

theorem nextOf_tup_end {it l : Addr} {i : Nat} {items : Array Value} {Q : Value → Shared → Prop} (hh : A.handled = none)
    (hit : s.heap.IsTupleIter it l i) (hl : s.heap.IsTuple l items) (hx : items[i]? = none)
    (hE : ∀ h' e, Heap.ExtBut it s.heap h' → (∃ o, h'.get? e = some o ∧ o.cls = .type "StopIteration") → E (.ref e) { s with heap := h' }) :
    wpAny (model prog w) A (Builtin.SmallTypes.nextOf (.ref it)) Q E s := by
  obtain ⟨o, ho, hc, hd⟩ := id hit
  obtain ⟨ol, hol, _, nl, hdl⟩ := hl
  unfold Builtin.SmallTypes.nextOf
  refine wpAny_bind (wpAny_callSpecial?_slot (name := Str.ofString "__next__") hit.typeIs F.slot_tuple_iterator_next
    (wpAny_call_entry F.slot_tuple_iterator_next hit.typeIs F.entry_tuple_iterator_next ?_ (F.args_tuple_iterator_next_1 _)))
  show wpAny _ _ (field (.ref it) 0 >>= _) _ _ s
  refine wpAny_bind (wpAny_field ho hd (x := .ref l) rfl ?_)
  show wpAny _ _ (if (Value.ref l == Value.none) = true then _ else _) _ _ s
  rw [if_neg (show ¬ ((Value.ref l == Value.none) = true) from Bool.false_ne_true)]
  show wpAny _ _ (field (.ref it) 1 >>= _) _ _ s
  refine wpAny_bind (wpAny_field ho hd (x := .int i 0) rfl ?_)
  show wpAny _ _ (seqItems? (.ref l) >>= _) _ _ s
  refine wpAny_bind (wpAny_seqItems hol hdl ?_)
  simp only [Int.toNat_natCast, hx]
  refine wpAny_bind (wpAny_rule (wpAny_bind (wpAny_setField ho hd (by simp) ?_)))
  show wpAny _ _ (newExc (.type "StopIteration") [] >>= _) _ _ _
  refine wpAny_bind ?_
  simp only [newExc, newTuple]
  refine wpAny_bind (wpAny_newObj_type ?_ (by size_fits))
  refine wpAny_bind (m := firstArgMember _ _) (wpAny_of_eq (a := Value.none) (by first | rfl | (simp only [firstArgMember]; rfl)) ?_)
  refine wpAny_newObj_type ?_ (by size_fits)
  simp only [raiseNew]
  refine wpAny_bind (wpAny_handled ?_)
  first | rw [show A.in1.handled = none from hh] | rw [hh]
  refine wpAny_bind (wpAny_pure (wpAny_throw ?_))
  exact hE _ _ (((Heap.SameBut.update ..).extBut.push _).push _) ⟨_, Heap.get?_push_size _ rfl, rfl⟩
end

theorem draws_tup {prog : Program} {w : World} {A : Around} (hh : A.handled = none) (it l : Addr) (hne : l ≠ it) (items : Array Value) :
    Draws prog w A it [it, l] items.size (fun i v => items[i]? = some v) (fun i h => h.IsTupleIter it l i ∧ h.IsTuple l items) where
  live := fun _ _ st => let ⟨o, ho, _⟩ := st.1; ⟨o, ho⟩
  frame := fun _ _ _ st hk => ⟨st.1.at fun o e => hk it (by simp) o e, st.2.at fun o e => hk l (by simp) o e⟩
  item := fun i s Q E hi st hQ => by
    refine nextOf_tup_item st.1 st.2 (x := items[i]) (by simp [hi]) fun h' hit' hs' => ?_
    exact hQ _ h' s.toks (by simp [hi]) ⟨hit', st.2.extBut hs'.extBut hne⟩ hs'
  done := fun s Q E st hE => nextOf_tup_end hh st.1 st.2 (by simp) hE

section
open AutoSeq1 (wpAny_loadPart')
theorem meets_enum_tup (l : Addr) (items : Array Value) (n : Nat) (dct : Option Addr) (sl : Array (Option Value)) :
    Meets (Builtin.«enumerate.__new__» ⟨[.type "enumerate", .ref l], []⟩) (fun _ R s => s.heap.get? l = some { cls := .type "tuple", dict := dct, data := .seq items n, slots := sl } ∧
      R (.ok (.ret (.ref (s.heap.push { cls := .type "tuple_iterator", data := .fields #[.ref l, .int 0 0] }).objs.size)))
        { s with heap := (s.heap.push { cls := .type "tuple_iterator", data := .fields #[.ref l, .int 0 0] }).push { cls := .type "enumerate", data := .fields #[.none, .bool false, .ref s.heap.objs.size, rawInt 0, .none, .none] } }) :=
  .of_wp fun prog w A R s h => by
    obtain ⟨hp, g, d, tk, os⟩ := s; obtain ⟨hl, h⟩ := h
    have hsub := sub_enumerate
    have hL : Heap.IsTuple (Shared.heap ⟨hp, g, d, tk, os⟩) l items := ⟨_, hl, rfl, n, rfl⟩
    wp_walk using wpAny_loadPart' hl
    refine wpAny_stack_any fun st => wpAny_pure ?_
    split
    · rename_i c _ _ _ _ _
      cases (c == Value.type "enumerate")
      · wp_walk using wpAny_loadPart' hl, wpAny_pyIter_tuple hL
        exact ⟨_, rfl, h⟩
      · wp_walk using wpAny_loadPart' hl, wpAny_pyIter_tuple hL
        exact ⟨_, rfl, h⟩
    · wp_walk using wpAny_loadPart' hl, wpAny_pyIter_tuple hL
      exact ⟨_, rfl, h⟩
end
section
variable {prog : Program} {w : World} {A : Around} {E : Value → Shared → Prop} {s : Shared}
theorem call_enum_tup {l : Addr} {items : Array Value} {Q : Value → Shared → Prop} (hL : s.heap.IsTuple l items)
    (h : ∀ h', IsEnum h' (s.heap.objs.size + 1) s.heap.objs.size 0 .none → h'.IsTupleIter s.heap.objs.size l 0 → h'.objs.size = s.heap.objs.size + 2 →
      (∀ b o, s.heap.get? b = some o → h'.get? b = some o) → Q (.ref (s.heap.objs.size + 1)) { s with heap := h' }) :
    wpAny (model prog w) A (call (.type "enumerate") [.ref l]) Q E s := by
  obtain ⟨⟨c, dct, dt, sl⟩, hl, hc, n, hd⟩ := hL
  replace hc : c = .type "tuple" := hc
  replace hd : dt = .seq items n := hd
  subst hc hd
  refine callType_new F.called_enumerate (by decide) (F.typeCall_enumerate_1 _) (F.newCall_enumerate_1 _) (fun obj => F.args_object_init_2 obj _) F.entry_enumerate_new
    (meets_enum_tup l items n dct sl) ⟨hl, ?_⟩
  have hz : (s.heap.push { cls := .type "tuple_iterator", data := .fields #[.ref l, .int 0 0] }).objs.size = s.heap.objs.size + 1 := Heap.size_push ..
  show _ ∧ _
  rw [hz]
  have he : IsEnum ((s.heap.push { cls := .type "tuple_iterator", data := .fields #[.ref l, .int 0 0] }).push
      { cls := .type "enumerate", data := .fields #[.none, .bool false, .ref s.heap.objs.size, rawInt 0, .none, .none] }) (s.heap.objs.size + 1) s.heap.objs.size 0 .none := by
    have := Heap.get?_push_size (s.heap.push { cls := .type "tuple_iterator", data := .fields #[.ref l, .int 0 0] })
      (o := { cls := .type "enumerate", data := .fields #[.none, .bool false, .ref s.heap.objs.size, rawInt 0, .none, .none] }) rfl
    rw [hz] at this; exact this
  refine ⟨⟨_, he, rfl⟩, h _ he ⟨_, Heap.get?_push_of_some _ (Heap.get?_push_size _ rfl), rfl, rfl⟩ (by rw [Heap.size_push, hz]) fun b o x => Heap.get?_push_of_some _ (Heap.get?_push_of_some _ x)⟩
end

section
variable {prog : Program} {w : World} {A : Around} {E : Value → Shared → Prop} {s : Shared} {env : Env} {h₀ : Heap} {target : Expr} {body : List Stmt} {Q : Flow → Shared → Prop} {K : Frag}
theorem enum_K {elts : List Expr} {k : Nat} {pos : Pos} {ax : Addr} {lo : Obj} {vs : List Value} {xs : List Itm} {n : Nat} {m₀ : Str → Option Value} {news : List (Addr × Obj)}
    (hh : A.handled = none) (F : Fr h₀ env.locals s.heap m₀) (N : News h₀ env.locals s.heap news) (X₀ : K.In h₀) (hk : K.lookup ax = some lo) (hc : lo.cls = .type "tuple") (hd : lo.data = .seq vs.toArray n) (hx : enumItems 0 vs = xs)
    (rest₀ : ∀ I : Addr, (∀ p ∈ news, p.1 < I) → ItemsRest prog w A E h₀ env (.Tuple elts k pos) body Q s [(I + 1, "enumerate"), (I, "tuple_iterator")] [] xs m₀ news) :
    wpAny (model prog w) A (call (.type "enumerate") [.ref ax]) (fun xv s₁ => wpAny (model prog w) A (pyIter xv) (fun it s₂ => TurnsAt prog w A h₀ env (.Tuple elts k pos) body Q E it s₂) E s₁) E s := by
  subst hx
  have hg : h₀.get? ax = some lo := X₀ _ _ hk
  have hax : s.heap.get? ax = some lo := F.keep _ _ hg
  have hl : s.heap.IsTuple ax vs.toArray := ⟨lo, hax, hc, n, hd⟩
  have hlt : ax < s.heap.objs.size := Heap.lt_size hax
  have hLs : env.locals < s.heap.objs.size := F.ns.lt
  refine call_enum_tup hl fun h' hE hI hsz hk => ?_
  refine wpAny_pyIter_enum hE ?_
  have D := draws_tup (prog := prog) (w := w) (A := A.in1) hh s.heap.objs.size ax (Nat.ne_of_lt hlt) vs.toArray
  have hem : s.heap.objs.size + 1 ∉ [s.heap.objs.size, ax] := by
    intro hm
    have : s.heap.objs.size + 1 = s.heap.objs.size ∨ s.heap.objs.size + 1 = ax := by simpa using hm
    exact this.elim (fun q => absurd q (Nat.succ_ne_self _)) fun q => absurd q.symm (ktu_ne 1 hlt)
  refine ktg_core (tk0 := s.toks) (keep := []) (KTurns.ofWalksU (WalksT.enumerateD D (s.heap.objs.size + 1) (Nat.succ_ne_self _) hem (by simp)).toU) (by simp [enumItems_length]) ?_ ?_ ?_ ?_ ?_ ?_ ?_ ?_ (F.keeps hk) (N.grown hk) trivial (rest₀ _ fun p hp => Heap.lt_size (N p hp).1)
  · rintro i v h ⟨T, vals, rfl, ⟨t, x, hx, rfl⟩, hT⟩
    refine ⟨_, enumItems_get vs 0 i (v := x) (by simpa using hx), T, t, rfl, ?_⟩
    show IsTup h T #[.int ((0 + i : Nat) : Int) t, x]
    rw [Nat.zero_add]
    exact hT
  · rintro i h ⟨⟨old, he⟩, ⟨oi, hoi, hic, _⟩, _⟩
    have he' : ∃ oe : Obj, h.get? (s.heap.objs.size + 1) = some oe ∧ oe.cls = .type "enumerate" := ⟨_, he, rfl⟩
    obtain ⟨oe, h1, h2⟩ := he'
    refine ⟨[(s.heap.objs.size + 1, oe), (s.heap.objs.size, oi)], ⟨⟨rfl, h2⟩, ⟨rfl, hic⟩, trivial⟩, fun p hp => ?_⟩
    rcases List.mem_cons.mp hp with rfl | hp
    · exact h1
    · rw [List.mem_singleton.mp hp]; exact hoi
  · intro b hb
    have hb' : b = s.heap.objs.size + 1 ∨ b = s.heap.objs.size := by simpa using hb
    rcases hb' with rfl | rfl
    · exact ⟨by simp, ktu_new F (Nat.le_add_right _ _)⟩
    · exact ⟨by simp, ktu_new F (Nat.le_refl _)⟩
  · intro b hb
    simpa using hb
  · intro b hb
    have hb' : b = s.heap.objs.size + 1 ∨ b = s.heap.objs.size ∨ b = ax := by simpa using hb
    rcases hb' with rfl | rfl | rfl
    · exact .inl (by simp)
    · exact .inl (by simp)
    · exact .inr (.inr ⟨lo, hg⟩)
  · intro hI'
    have hb' : env.locals = s.heap.objs.size + 1 ∨ env.locals = s.heap.objs.size ∨ env.locals = ax := by simpa using hI'
    rcases hb' with e | e | e
    · exact ktu_ne 1 hLs e
    · exact Nat.ne_of_lt hLs e
    · exact absurd (Heap.lt_size hg) (Nat.not_lt.mpr (e ▸ F.above))
  · intro p hp hI'
    have hp' := Heap.lt_size (N p hp).1
    have hb' : p.1 = s.heap.objs.size + 1 ∨ p.1 = s.heap.objs.size := by simpa using hI'
    rcases hb' with e | e
    · exact ktu_ne 1 hp' e
    · exact Nat.ne_of_lt hp' e
  · exact ⟨⟨_, by simpa using hE⟩, hI, hl.at fun o e => hk _ o e⟩

end
end
section
example : True := by
  w_top off
  trivial
section
variable {prog : Program} {w : World} {A : Around} {E : Value → Shared → Prop} {s : Shared} {env : Env} {h₀ : Heap} {body orelse : List Stmt} {Q : Flow → Shared → Prop} {K : Frag} {xi xc : Str} {pk pv pt : Pos} {x1 : Nat}

/-- pairs that lie in the written part -/
inductive PairsIn (K : Frag) : List Value → List (Value × Value) → Prop
  | nil : PairsIn K [] []
  | cons {T : Addr} {o : Obj} {b c : Value} {n : Nat} {vs : List Value} {ps : List (Value × Value)} : K.lookup T = some o → o.cls = .type "tuple" → o.data = .seq #[b, c] n → PairsIn K vs ps → PairsIn K (.ref T :: vs) ((b, c) :: ps)
theorem PairsIn.length : ∀ {vs : List Value} {ps : List (Value × Value)}, PairsIn K vs ps → vs.length = ps.length
  | _, _, .nil => rfl
  | _, _, .cons _ _ _ r => congrArg (· + 1) r.length
theorem PairsIn.at : ∀ {vs : List Value} {ps : List (Value × Value)}, PairsIn K vs ps → ∀ (i : Nat) (x : Value), vs[i]? = some x → ∃ T o b c n, x = .ref T ∧ K.lookup T = some o ∧ o.cls = .type "tuple" ∧ o.data = .seq #[b, c] n ∧ ps[i]? = some (b, c)
  | _, _, .nil, i, x, h => by simp at h
  | _, _, .cons h1 h2 h3 r, 0, x, h => by
    have e := Option.some.inj h
    subst e
    exact ⟨_, _, _, _, _, rfl, h1, h2, h3, rfl⟩
  | _, _, .cons h1 h2 h3 r, i + 1, x, h => r.at i x h

def ElseRest (prog : Program) (w : World) (A : Around) (E : Value → Shared → Prop) (h₀ : Heap) (env : Env) (xi xc : Str) (body orelse : List Stmt) (Q : Flow → Shared → Prop) (s : Shared) (I : Addr) : List (Value × Value) → (Str → Option Value) → List (Addr × Obj) → Prop
  | [], m, news => ∀ h tk, Fr h₀ env.locals h m → News h₀ env.locals h news → wpAny (model prog w) A (execs orelse env) Q E { s with heap := h, toks := tk }
  | (b, c) :: r, m, news => ∀ (it : Obj) h tk, Fr h₀ env.locals h (fun y => if y = xc then some c else if y = xi then some b else m y) → News h₀ env.locals h ((I, it) :: news) →
      wpAny (model prog w) A (execs body env) (UnrPost h₀ env.locals { s with heap := h, toks := tk } I it (ElseRest prog w A E h₀ env xi xc body orelse Q s I r) Q) E { s with heap := h, toks := tk }
theorem ElseRest.zero {I : Addr} {m : Str → Option Value} {news : List (Addr × Obj)} (h : ∀ h tk, Fr h₀ env.locals h m → News h₀ env.locals h news → wpAny (model prog w) A (execs orelse env) Q E { s with heap := h, toks := tk }) :
    ElseRest prog w A E h₀ env xi xc body orelse Q s I [] m news := h
theorem ElseRest.succ {I : Addr} {b c : Value} {r : List (Value × Value)} {m : Str → Option Value} {news : List (Addr × Obj)}
    (h : ∀ (it : Obj) h tk, Fr h₀ env.locals h (fun y => if y = xc then some c else if y = xi then some b else m y) → News h₀ env.locals h ((I, it) :: news) →
      wpAny (model prog w) A (execs body env) (UnrPost h₀ env.locals { s with heap := h, toks := tk } I it (ElseRest prog w A E h₀ env xi xc body orelse Q s I r) Q) E { s with heap := h, toks := tk }) :
    ElseRest prog w A E h₀ env xi xc body orelse Q s I ((b, c) :: r) m news := h

theorem unrEnd_head {L I : Addr} {it : Obj} {rest : (Str → Option Value) → List (Addr × Obj) → Prop} {s₁ : Shared} {h' : Heap} {tk : Nat} {m' : Str → Option Value} {news' : List (Addr × Obj)} (F : Fr h₀ L h' m') (N : News h₀ L h' ((I, it) :: news'))
    (off : ∀ p ∈ news', p.1 ≠ I) (r : rest m' news') : UnrEnd h₀ L s₁ I it rest { s₁ with heap := h', toks := tk } := ⟨h', tk, m', news', rfl, F, N, off, r⟩

def ElseAt (prog : Program) (w : World) (A : Around) (h₀ : Heap) (env : Env) (xi xc : Str) (pk pv pt : Pos) (x1 : Nat) (body orelse : List Stmt) (Q : Flow → Shared → Prop) (E : Value → Shared → Prop) (xv : Value) (s₁ : Shared) : Prop :=
  ∃ (m : Str → Option Value) (news : List (Addr × Obj)) (ax : Addr) (vs : List Value) (ps : List (Value × Value)), xv = .ref ax ∧ Fr h₀ env.locals s₁.heap m ∧ News h₀ env.locals s₁.heap news ∧ h₀.IsTuple ax vs.toArray ∧ vs.length = ps.length ∧
    (∀ (i : Nat) (x : Value), vs[i]? = some x → ∃ T b c, x = .ref T ∧ h₀.IsTuple T #[b, c] ∧ ps[i]? = some (b, c)) ∧
    ElseRest prog w A E h₀ env xi xc body orelse Q s₁ s₁.heap.objs.size ps m news

theorem elseAt_K {ax : Addr} {lo : Obj} {vs : List Value} {n : Nat} {ps : List (Value × Value)} {m : Str → Option Value} {news : List (Addr × Obj)} (F : Fr h₀ env.locals s.heap m) (N : News h₀ env.locals s.heap news) (X₀ : K.In h₀) (hk : K.lookup ax = some lo) (hc : lo.cls = .type "tuple") (hd : lo.data = .seq vs.toArray n)
    (hp : PairsIn K vs ps) (rest : ∀ I : Addr, (∀ p ∈ news, p.1 < I) → ElseRest prog w A E h₀ env xi xc body orelse Q s I ps m news) :
    ElseAt prog w A h₀ env xi xc pk pv pt x1 body orelse Q E (.ref ax) s :=
  ⟨m, news, ax, vs, ps, rfl, F, N, ⟨lo, X₀ _ _ hk, hc, n, hd⟩, hp.length, fun i x hx => by
    obtain ⟨T, o, b, c, n', e, h1, h2, h3, h4⟩ := hp.at i x hx
    exact ⟨T, b, c, e, ⟨o, X₀ _ _ h1, h2, n', h3⟩, h4⟩, rest _ fun p hp => Heap.lt_size (N p hp).1⟩

theorem For_else {iter : Expr} {pos : Pos} {m : Str → Option Value} (_F : Fr h₀ env.locals s.heap m) (hh : A.handled = none) (hxi : env.kindOf xi = some .local) (hxc : env.kindOf xc = some .local)
    (hp : (env.scope.kind == .class || (env.scope.kind == .module && env.locals != env.globals)) = false)
    (h : wpAny (model prog w) A (eval iter env) (fun xv s₁ => ElseAt prog w A h₀ env xi xc pk pv pt x1 body orelse Q E xv s₁) E s)
    (hs : ∀ x, foldedSetIterable iter env x = pure x)
    (hE : PassesOwn (model prog w) A env E) :
    wpAny (model prog w) A (exec (.For (.Tuple [.Name xi pk, .Name xc pv] x1 pt) iter body orelse pos) env) Q E s := by
  refine wpAny_For (wpAny_mono h (fun xv s₁ h₁ => ?_) fun _ _ e => e) hs
  obtain ⟨m, news, ax, vs, ps, rfl, F, N, ht, hlen, hps, rest⟩ := h₁
  have ht₁ : s₁.heap.IsTuple ax vs.toArray := ht.at fun o e => F.keep _ o e
  have haxlt : ax < s₁.heap.objs.size := by obtain ⟨o, ho, _⟩ := ht₁; exact Heap.lt_size ho
  have hne : ax ≠ s₁.heap.objs.size := Nat.ne_of_lt haxlt
  have hInew : h₀.get? s₁.heap.objs.size = none := next_is_new F
  have hIL : s₁.heap.objs.size ≠ env.locals := Ne.symm (Nat.ne_of_lt F.ns.lt)
  refine wpAny_pyIter_tuple ht₁ ?_
  refine codeAny_forLoop_any
    (fun k s' => ∃ h' tk m' news' i, s' = { s₁ with heap := h', toks := tk } ∧ h'.IsTupleIter s₁.heap.objs.size ax i ∧ Fr h₀ env.locals h' m' ∧ News h₀ env.locals h' news' ∧ (∀ p ∈ news', p.1 ≠ s₁.heap.objs.size) ∧
      ElseRest prog w A E h₀ env xi xc body orelse Q s₁ s₁.heap.objs.size (ps.drop i) m' news' ∧ i ≤ vs.length ∧ k = vs.length + 1 - i) ?_ (vs.length + 1)
    ⟨_, s₁.toks, m, news, 0, rfl, ⟨_, Heap.get?_push_size _ rfl, rfl, rfl⟩, F.push _, (fun p hp => ⟨Heap.get?_push_of_some _ (N p hp).1, (N p hp).2⟩), (fun p hp => Nat.ne_of_lt (Heap.lt_size (N p hp).1)), (by rw [List.drop_zero]; exact rest), Nat.zero_le _, rfl⟩
  rintro k s' ⟨h', tk, m', news', i, rfl, hit, F', N', hoff, hrest, hi, rfl⟩
  have htt : h'.IsTuple ax vs.toArray := ht.at fun o e => F'.keep _ o e
  have same : ∀ h₁ : Heap, (∀ b o, b ≠ s₁.heap.objs.size → h'.get? b = some o → h₁.get? b = some o) → Fr h₀ env.locals h₁ m' ∧ News h₀ env.locals h₁ news' := fun h₁ hk₁ =>
    ⟨⟨F'.ns.at' fun o e => hk₁ _ o (Ne.symm hIL) e, fun b o e => hk₁ b o (fun q => by rw [q, hInew] at e; cases e) (F'.keep b o e), F'.above⟩, fun p hp => ⟨hk₁ _ _ (hoff p hp) (N' p hp).1, (N' p hp).2⟩⟩
  by_cases hlt : i < vs.length
  · obtain ⟨x, hx⟩ : ∃ x, vs[i]? = some x := ⟨vs[i], List.getElem?_eq_getElem hlt⟩
    obtain ⟨T, b, c, rfl, hT, hpi⟩ := hps i x hx
    have hdrop : ps.drop i = (b, c) :: ps.drop (i + 1) := by
      have hlt' : i < ps.length := hlen ▸ hlt
      rw [List.drop_eq_getElem_cons hlt']
      congr 1
      exact Option.some.inj ((List.getElem?_eq_getElem hlt').symm.trans hpi)
    rw [hdrop] at hrest
    refine wpAny_pyNext_tuple_item hit htt (x := .ref T) (by simpa using hx) fun h₁ hit₁ hs₁ => ?_
    refine letGo_tupleiter hit₁ ?_
    obtain ⟨F₁, N₁⟩ := same h₁ fun b o hb e => hs₁.extBut b o hb e
    have hT₁ : h₁.IsTuple T #[b, c] := hT.at fun o e => F₁.keep _ o e
    refine wpAny_assign_Tuple hh hT₁ rfl rfl fun h₃ hx₃ => ?_
    replace hx₃ : Heap.ExtBut h₁.objs.size h₁ h₃ := hx₃
    have up₃ : ∀ b o, h₁.get? b = some o → h₃.get? b = some o := fun b o x => hx₃ b o (Nat.ne_of_lt (Heap.lt_size x)) x
    obtain ⟨F₃, N₃⟩ := same h₃ fun b o hb e => up₃ b o (hs₁.extBut b o hb e)
    show wpAny _ A (do holding [c] (assign (.Name xi pk) env b); do holding [] (assign (.Name xc pv) env c); pure ()) _ _ _
    refine wpAny_bind (wpAny_holding (wpAny_assign_Name (wpAny_storeName_local hxi F₃.ns (fun h₄ hn₄ hs₄ => ?_) hp)))
    replace hs₄ : Heap.SameBut env.locals h₃ h₄ := hs₄
    have F₄ := F₃.set hn₄ hs₄
    refine wpAny_bind (wpAny_holding (wpAny_assign_Name (wpAny_storeName_local hxc F₄.ns (fun h₅ hn₅ hs₅ => wpAny_pure ?_) hp)))
    replace hs₅ : Heap.SameBut env.locals h₄ h₅ := hs₅
    have F₅ := F₄.set hn₅ hs₅
    have N₅ : News h₀ env.locals h₅ news' := (N₃.set hs₄).set hs₅
    have hit₅ : h₅.IsTupleIter s₁.heap.objs.size ax (i + 1) := hit₁.at fun o e => hs₅.extBut _ o hIL (hs₄.extBut _ o hIL (up₃ _ o e))
    obtain ⟨it, hio, hic, hid⟩ := hit₅
    have N₆ : News h₀ env.locals h₅ ((s₁.heap.objs.size, it) :: news') := fun p hp => by
      rcases List.mem_cons.mp hp with rfl | hp
      · exact ⟨hio, hIL, hInew⟩
      · exact N₅ p hp
    refine wpAny_passesOwn hE (wpAny_mono (hrest it h₅ _ F₅ N₆) (fun f s₃ q => ?_) fun _ _ e => e)
    cases f with
    | ret v => exact q
    | brk => exact q
    | next =>
      obtain ⟨h₆, tk₆, m₆, news₆, rfl, F₆, N₆', ho, r⟩ := q
      exact ⟨vs.length + 1 - (i + 1), by omega, h₆, tk₆, m₆, news₆, i + 1, rfl, ⟨it, (N₆' _ (List.mem_cons_self ..)).1, hic, hid⟩, F₆, fun p hp => N₆' p (List.mem_cons_of_mem _ hp), ho, r, hlt, rfl⟩
    | cont =>
      obtain ⟨h₆, tk₆, m₆, news₆, rfl, F₆, N₆', ho, r⟩ := q
      exact ⟨vs.length + 1 - (i + 1), by omega, h₆, tk₆, m₆, news₆, i + 1, rfl, ⟨it, (N₆' _ (List.mem_cons_self ..)).1, hic, hid⟩, F₆, fun p hp => N₆' p (List.mem_cons_of_mem _ hp), ho, r, hlt, rfl⟩
  · have hin : i = vs.length := by omega
    subst hin
    refine wpAny_pyNext_tuple_end hh hit htt (by simp) fun h₁ he => ?_
    obtain ⟨F₁, N₁⟩ := same h₁ fun b o hb e => he b o hb e
    have z : ps.drop vs.length = [] := List.drop_eq_nil_of_le (Nat.le_of_eq hlen.symm)
    rw [z] at hrest
    exact wpAny_passesOwn hE (hrest h₁ _ F₁ N₁)
end
end
section
example : True := by
  w_top off
  trivial
def Stop (P : Prop) : Prop := P
theorem Stop.go {P : Prop} (h : P) : Stop P := h
theorem Stop.un {P : Prop} (h : Stop P) : P := h

/-- what a bit of the table leaves of the mode of a plain file -/
noncomputable def msk (n bit : Int) : Int :=
  if bit = 61440 then 32768 else if bit = 2112 then n / 64 % 2 * 64 else if bit = 1032 then n / 8 % 2 * 8 else if bit = 513 then n % 2
  else if bit = 256 then n / 256 % 2 * 256 else if bit = 128 then n / 128 % 2 * 128 else if bit = 64 then n / 64 % 2 * 64 else if bit = 32 then n / 32 % 2 * 32 else if bit = 16 then n / 16 % 2 * 16
  else if bit = 8 then n / 8 % 2 * 8 else if bit = 4 then n / 4 % 2 * 4 else if bit = 2 then n / 2 % 2 * 2 else if bit = 1 then n % 2 else 0
noncomputable def mskBits : List Int := [61440, 2112, 1032, 513, 2048, 1024, 512, 256, 128, 64, 32, 16, 8, 4, 2, 1]
theorem msk_all : ∀ n : Fin 512, mskBits.all (fun bit => decide (Builtin.bitAnd (32768 + ((n.1 : Nat) : Int)) bit = msk ((n.1 : Nat) : Int) bit)) = true := by decide +kernel
theorem msk_is {n bit : Int} (h0 : 0 ≤ n) (h1 : n < 512) (hb : mskBits.contains bit = true) : Builtin.bitAnd (32768 + n) bit = msk n bit := by
  have h := msk_all ⟨n.toNat, by omega⟩
  have e : ((n.toNat : Nat) : Int) = n := Int.toNat_of_nonneg h0
  simp only [e] at h
  have := List.all_eq_true.mp h bit (List.contains_iff_mem.mp hb)
  exact of_decide_eq_true this
/-- the sign that one table of the listing gives -/
noncomputable def sig (n : Int) (i : Nat) : List (Int × Str) → Str
  | [] => if (i : Int) = 0 then ⟨#[63]⟩ else ⟨#[45]⟩
  | (b, c) :: r => if (i : Int) = 0 then (if 32768 = b then c else sig n i r) else if msk n b = b then c else sig n i r
noncomputable def sigs (n : Int) : Nat → List (List (Int × Str)) → List Str
  | _, [] => []
  | i, bs :: r => sig n i bs :: sigs n (i + 1) r
theorem sigs_length (n : Int) : ∀ (r : List (List (Int × Str))) (i : Nat), (sigs n i r).length = r.length
  | [], _ => rfl
  | _ :: r, i => congrArg (· + 1) (sigs_length n r (i + 1))
theorem sig0_nil {n : Int} {i : Nat} (h : (i : Int) = 0) : sig n i [] = Str.ofString "?" := (if_pos h).trans (by decide +kernel)
theorem sig1_nil {n : Int} {i : Nat} (h : ¬ (i : Int) = 0) : sig n i [] = Str.ofString "-" := (if_neg h).trans (by decide +kernel)
theorem sig0_hit {n : Int} {i : Nat} {b : Int} {c : Str} {r : List (Int × Str)} (h : (i : Int) = 0) (h1 : 32768 = b) : sig n i ((b, c) :: r) = c := (if_pos h).trans (if_pos h1)
theorem sig0_miss {n : Int} {i : Nat} {b : Int} {c : Str} {r : List (Int × Str)} (h : (i : Int) = 0) (h1 : ¬ 32768 = b) : sig n i ((b, c) :: r) = sig n i r := (if_pos h).trans (if_neg h1)
theorem sig1_hit {n : Int} {i : Nat} {b : Int} {c : Str} {r : List (Int × Str)} (h : ¬ (i : Int) = 0) (h1 : msk n b = b) : sig n i ((b, c) :: r) = c := (if_neg h).trans (if_pos h1)
theorem sig1_miss {n : Int} {i : Nat} {b : Int} {c : Str} {r : List (Int × Str)} (h : ¬ (i : Int) = 0) (h1 : ¬ msk n b = b) : sig n i ((b, c) :: r) = sig n i r := (if_neg h).trans (if_neg h1)
noncomputable def fmRows : List (List (Int × Str)) :=
  [[(40960, Str.ofString "l"), (49152, Str.ofString "s"), (32768, Str.ofString "-"), (24576, Str.ofString "b"), (16384, Str.ofString "d"), (8192, Str.ofString "c"), (4096, Str.ofString "p")],
   [(256, Str.ofString "r")], [(128, Str.ofString "w")], [(2112, Str.ofString "s"), (2048, Str.ofString "S"), (64, Str.ofString "x")],
   [(32, Str.ofString "r")], [(16, Str.ofString "w")], [(1032, Str.ofString "s"), (1024, Str.ofString "S"), (8, Str.ofString "x")],
   [(4, Str.ofString "r")], [(2, Str.ofString "w")], [(513, Str.ofString "t"), (512, Str.ofString "T"), (1, Str.ofString "x")]]
noncomputable def fmRowsN : List (List (Int × Str)) :=
  [[(40960, ⟨#[108]⟩), (49152, ⟨#[115]⟩), (32768, ⟨#[45]⟩), (24576, ⟨#[98]⟩), (16384, ⟨#[100]⟩), (8192, ⟨#[99]⟩), (4096, ⟨#[112]⟩)],
   [(256, ⟨#[114]⟩)], [(128, ⟨#[119]⟩)], [(2112, ⟨#[115]⟩), (2048, ⟨#[83]⟩), (64, ⟨#[120]⟩)],
   [(32, ⟨#[114]⟩)], [(16, ⟨#[119]⟩)], [(1032, ⟨#[115]⟩), (1024, ⟨#[83]⟩), (8, ⟨#[120]⟩)],
   [(4, ⟨#[114]⟩)], [(2, ⟨#[119]⟩)], [(513, ⟨#[116]⟩), (512, ⟨#[84]⟩), (1, ⟨#[120]⟩)]]
theorem fm_rows : fmRows = fmRowsN := by decide +kernel
noncomputable def fmText (n : Int) : Str := Txt.join (Str.ofString "") (sigs n 0 fmRows)
theorem sig_len {n : Int} {i : Nat} : ∀ {bs : List (Int × Str)}, (∀ p ∈ bs, p.2.length ≤ 1) → (sig n i bs).length ≤ 1
  | [], _ => by
    show (if (i : Int) = 0 then (⟨#[63]⟩ : Str) else ⟨#[45]⟩).length ≤ 1
    split
    · exact Nat.le_refl 1
    · exact Nat.le_refl 1
  | (b, c) :: r, h => by
    have h1 : c.length ≤ 1 := h (b, c) (.head _)
    have h2 := sig_len (n := n) (i := i) (bs := r) fun p hp => h p (.tail _ hp)
    show (if (i : Int) = 0 then (if 32768 = b then c else sig n i r) else if msk n b = b then c else sig n i r).length ≤ 1
    split
    · split
      · exact h1
      · exact h2
    · split
      · exact h1
      · exact h2
theorem sigs_len {n : Int} : ∀ {rs : List (List (Int × Str))} {i : Nat}, (∀ bs ∈ rs, ∀ p ∈ bs, p.2.length ≤ 1) → ((sigs n i rs).map (·.length)).sum ≤ rs.length
  | [], _, _ => Nat.le_refl 0
  | bs :: r, i, h => by
    have h1 := sig_len (n := n) (i := i) (h bs (.head _))
    have h2 := sigs_len (n := n) (rs := r) (i := i + 1) fun b hb => h b (.tail _ hb)
    show (sig n i bs).length + ((sigs n (i + 1) r).map (·.length)).sum ≤ r.length + 1
    omega
theorem fm_one : ∀ bs ∈ fmRowsN, ∀ p ∈ bs, p.2.length ≤ 1 := by decide +kernel
theorem fm_weight {n : Int} : ((sigs n 0 fmRows).map (·.length)).sum + (sigs n 0 fmRows).length ≤ 1048576 := by
  rw [fm_rows]
  have h1 := sigs_len (n := n) (i := 0) fm_one
  have h2 : fmRowsN.length = 10 := rfl
  rw [sigs_length]
  omega
/-- the pairs of a table, with bits that the mode of a plain file is asked for -/
inductive RowIs (i : Nat) : List (Value × Value) → List (Int × Str) → Prop
  | nil : RowIs i [] []
  | cons {b : Int} {c : Str} {t t' : Tok} {ps : List (Value × Value)} {bs : List (Int × Str)} : (i = 0 ∨ mskBits.contains b = true) → RowIs i ps bs → RowIs i ((.int b t, .str c t') :: ps) ((b, c) :: bs)
/-- the tables from the i-th on -/
inductive Tabs (K : Frag) : Nat → List Value → List (List (Int × Str)) → Prop
  | nil {i : Nat} : Tabs K i [] []
  | cons {i : Nat} {T : Addr} {o : Obj} {ws : List Value} {k : Nat} {ps : List (Value × Value)} {bs : List (Int × Str)} {vs : List Value} {rs : List (List (Int × Str))} :
      K.lookup T = some o → o.cls = .type "tuple" → o.data = .seq ws.toArray k → PairsIn K ws ps → RowIs i ps bs → Tabs K (i + 1) vs rs → Tabs K i (.ref T :: vs) (bs :: rs)
/-- between the tables -/
def Gfm (K : Frag) (n : Int) (t : Tok) (l : Addr) (i : Nat) (vs : List Value) (m' : Str → Option Value) (n' : List (Addr × Obj)) : Prop :=
  ∃ (m₁ : Str → Option Value) (k : Nat) (us : List Value) (xs : List Str) (rs : List (List (Int × Str))), Tabs K i vs rs ∧ StrsAre us xs ∧ xs ++ sigs n i rs = sigs n 0 fmRows ∧ n' = [(l, W.listOf us.toArray k)] ∧
    m' = (fun y => if y = Str.ofString "mode" then some (.int (32768 + n) t) else if y = Str.ofString "perm" then some (.ref l) else m₁ y)
theorem fm_map {n : Int} {t : Tok} {l : Addr} {m' : Str → Option Value} (h1 : m' (Str.ofString "mode") = some (.int (32768 + n) t)) (h2 : m' (Str.ofString "perm") = some (.ref l)) :
    m' = (fun y => if y = Str.ofString "mode" then some (.int (32768 + n) t) else if y = Str.ofString "perm" then some (.ref l) else m' y) := by
  funext y
  by_cases e1 : y = Str.ofString "mode"
  · subst e1; rw [if_pos rfl]; exact h1
  · rw [if_neg e1]
    by_cases e2 : y = Str.ofString "perm"
    · subst e2; rw [if_pos rfl]; exact h2
    · rw [if_neg e2]
/-- between the pairs of a table -/
def Hfm (n : Int) (t : Tok) (l : Addr) (i : Nat) (ti : Tok) (n0 : List (Addr × Obj)) (x : Str) (bs : List (Int × Str)) (m' : Str → Option Value) (n' : List (Addr × Obj)) : Prop :=
  ∃ (m₁ : Str → Option Value), n' = n0 ∧ x = sig n i bs ∧
    m' = (fun y => if y = Str.ofString "mode" then some (.int (32768 + n) t) else if y = Str.ofString "perm" then some (.ref l) else if y = Str.ofString "index" then some (.int (i : Int) ti) else m₁ y)
theorem fm_map3 {n : Int} {t : Tok} {l : Addr} {i : Nat} {ti : Tok} {m' : Str → Option Value} (h1 : m' (Str.ofString "mode") = some (.int (32768 + n) t)) (h2 : m' (Str.ofString "perm") = some (.ref l)) (h3 : m' (Str.ofString "index") = some (.int (i : Int) ti)) :
    m' = (fun y => if y = Str.ofString "mode" then some (.int (32768 + n) t) else if y = Str.ofString "perm" then some (.ref l) else if y = Str.ofString "index" then some (.int (i : Int) ti) else m' y) := by
  funext y
  by_cases e1 : y = Str.ofString "mode"
  · subst e1; rw [if_pos rfl]; exact h1
  · rw [if_neg e1]
    by_cases e2 : y = Str.ofString "perm"
    · subst e2; rw [if_pos rfl]; exact h2
    · rw [if_neg e2]
      by_cases e3 : y = Str.ofString "index"
      · subst e3; rw [if_pos rfl]; exact h3
      · rw [if_neg e3]
theorem gfm_next {K : Frag} {n : Int} {t : Tok} {l : Addr} {i k : Nat} {c x : Str} {tc : Tok} {us vs : List Value} {xs : List Str} {bs : List (Int × Str)} {rs : List (List (Int × Str))} {m' : Str → Option Value} {n' : List (Addr × Obj)} (hT : Tabs K (i + 1) vs rs) (hS : StrsAre us xs) (hE : xs ++ sigs n i (bs :: rs) = sigs n 0 fmRows)
    (hx : sig n i bs = x) (hc : x = c) (h1 : m' (Str.ofString "mode") = some (.int (32768 + n) t)) (h2 : m' (Str.ofString "perm") = some (.ref l)) (hn : n' = [(l, W.listOf (us ++ [Value.str c tc]).toArray k)]) : Gfm K n t l (i + 1) vs m' n' := by
  subst hc hx
  exact ⟨_, _, _, _, _, hT, hS.append' (.cons _ _ .nil), by rw [List.append_assoc]; exact hE, hn, fm_map h1 h2⟩
section
variable {prog : Program} {w : World} {A : Around} {E : Value → Shared → Prop} {s : Shared} {env : Env} {h₀ : Heap} {target : Expr} {body : List Stmt} {K : Frag}
theorem mR0 {Q : Value → Shared → Prop} {n : Int} {t u : Tok} (h0 : 0 ≤ n) (h1 : n < 512) (h : Q (.int (32768) s.toks) { s with toks := s.toks + 1 }) : wpAny (model prog w) A (binaryOp .BitAnd (.int (32768 + n) t) (.int 61440 u)) Q E s :=
  and_int (by rw [msk_is (bit := 61440) h0 h1 (by decide)]; exact h)
theorem mRb {Q : Value → Shared → Prop} {n b : Int} {i : Nat} {t u : Tok} (h0 : 0 ≤ n) (h1 : n < 512) (hb : i = 0 ∨ mskBits.contains b = true) (hi : ¬ (i : Int) = 0) (h : Q (.int (msk n b) s.toks) { s with toks := s.toks + 1 }) : wpAny (model prog w) A (binaryOp .BitAnd (.int (32768 + n) t) (.int b u)) Q E s :=
  and_int (by rw [msk_is h0 h1 (hb.resolve_left fun e => hi (by rw [e]; rfl))]; exact h)
theorem appendS {L D : Addr} {m : Str → Option Value} {news news' : List (Addr × Obj)} {us : List Value} {k : Nat} {x : Value} {Q : Value → Shared → Prop} (F : Fr h₀ L s.heap m) (N : News h₀ L s.heap news) (hz : us.length ≤ 1000) (U : Upd D (W.listOf us.toArray k) (W.listOf (us ++ [x]).toArray (k + 1)) news news')
    (h : ∀ h', Fr h₀ L h' m → News h₀ L h' news' → Q .none { s with heap := h' }) : wpAny (model prog w) A (call (.builtin "list.append") [.ref D, x]) Q E s :=
  append_K F N (by rw [List.push_toArray]; exact U) h (by rw [List.size_toArray, sizeLine_eq]; omega)
theorem fm_room {n : Int} {i : Nat} {us : List Value} {xs : List Str} {rs : List (List (Int × Str))} (hS : StrsAre us xs) (hE : xs ++ sigs n i rs = sigs n 0 fmRows) : us.length ≤ 1000 := by
  have h := congrArg List.length hE
  rw [List.length_append, sigs_length, sigs_length] at h
  rw [hS.len_eq]
  have : fmRows.length = 10 := rfl
  omega
theorem enum_stop {Q : Flow → Shared → Prop} {elts : List Expr} {k : Nat} {pos : Pos} {ax : Addr} {lo : Obj} {vs : List Value} {n : Nat} {m₀ : Str → Option Value} {news : List (Addr × Obj)}
    (hh : A.handled = none) (F : Fr h₀ env.locals s.heap m₀) (N : News h₀ env.locals s.heap news) (X₀ : K.In h₀) (hk : K.lookup ax = some lo) (hc : lo.cls = .type "tuple") (hd : lo.data = .seq vs.toArray n)
    (rest₀ : Stop (∀ I : Addr, (∀ p ∈ news, p.1 < I) → ItemsRest prog w A E h₀ env (.Tuple elts k pos) body Q s [(I + 1, "enumerate"), (I, "tuple_iterator")] [] (enumItems 0 vs) m₀ news)) :
    wpAny (model prog w) A (call (.type "enumerate") [.ref ax]) (fun xv s₁ => wpAny (model prog w) A (pyIter xv) (fun it s₂ => TurnsAt prog w A h₀ env (.Tuple elts k pos) body Q E it s₂) E s₁) E s :=
  enum_K hh F N X₀ hk hc hd rfl rest₀
theorem join_fm {Q : Value → Shared → Prop} {D : Addr} {x : Str} {t : Tok} {us : List Value} {n : Int} (hl : s.heap.IsList D us.toArray) (hx : x = Str.ofString "") (hS : StrsAre us (sigs n 0 fmRows))
    (h : ∀ t' k, Q (.str (fmText n) t') { s with toks := k }) : wpAny (model prog w) A (call (.builtin "str.join") [.str x t, .ref D]) Q E s := by
  subst hx
  exact join_listW hl hS (by decide) fm_weight h
/-- a part of the ledger will do -/
def SubG (G : (Str → Option Value) → List (Addr × Obj) → Prop) (m' : Str → Option Value) (n' : List (Addr × Obj)) : Prop := ∃ n'', (∀ p ∈ n'', p ∈ n') ∧ G m' n''
theorem mem_one {x : Addr × Obj} {n' : List (Addr × Obj)} (h : x ∈ n') : ∀ p ∈ [x], p ∈ n' := by
  intro p hp
  rw [List.mem_singleton.mp hp]
  exact h
theorem items_sub {Q : Flow → Shared → Prop} {ws : List (Addr × String)} {r : List Itm} {m : Str → Option Value} {n' n'' : List (Addr × Obj)} (hs : ∀ p ∈ n'', p ∈ n') (h : ItemsRest prog w A E h₀ env target body Q s ws [] r m n'') :
    ItemsRest prog w A E h₀ env target body Q s ws [] r m n' := by
  cases r with
  | nil => exact fun h' tk F N => h h' tk F fun p hp => N p (hs p hp)
  | cons a r =>
    intro v h' tk ha F
    have all : ∀ (ws : List (Addr × String)) (k k' : List (Addr × Obj) → Prop), (∀ its, k its → k' its) → AllObj ws k → AllObj ws k' := by
      intro ws
      induction ws with
      | nil => intro k k' hk a; exact hk _ a
      | cons a r ih => intro k k' hk b o ho; exact ih _ _ (fun its q => hk _ q) (b o ho)
    refine all _ _ _ (fun its q N => q fun p hp => ?_) (h v h' tk ha F)
    rcases List.mem_append.mp hp with hp | hp
    · exact N p (List.mem_append_left _ hp)
    · exact N p (List.mem_append_right _ (hs p hp))
/-- the turns of an enumeration by what holds between them -/
theorem items_enum {Q : Flow → Shared → Prop} {ws : List (Addr × String)} (G : Nat → List Value → (Str → Option Value) → List (Addr × Obj) → Prop)
    (nil : ∀ i m n, G i [] m n → ∀ h tk, Fr h₀ env.locals h m → News h₀ env.locals h n → Q .next { s with heap := h, toks := tk })
    (cons : ∀ i v r m n, G i (v :: r) m n → ∀ T t h tk, IsTup h T #[.int (i : Int) t, v] → Fr h₀ env.locals h m → AllObj ws (fun its => News h₀ env.locals h (its ++ n) →
      wpAny (model prog w) A (assign target env (.ref T)) (fun _ s₂ => wpAny (model prog w) A (execs body env) (UnrPostW h₀ env.locals { s with heap := h, toks := tk } its (fun m' n' => SubL [] n' ∧ SubG (G (i + 1) r) m' n') Q) E s₂) E { s with heap := h, toks := tk })) :
    ∀ (vs : List Value) i m n, G i vs m n → ItemsRest prog w A E h₀ env target body Q s ws [] (enumItems i vs) m n
  | [], i, m, n, g => nil i m n g
  | v :: r, i, m, n, g => by
    refine ItemsRest.pair fun T t h' tk hT F => ?_
    have all : ∀ (ws : List (Addr × String)) (k k' : List (Addr × Obj) → Prop), (∀ its, k its → k' its) → AllObj ws k → AllObj ws k' := by
      intro ws
      induction ws with
      | nil => intro k k' hk a; exact hk _ a
      | cons a r ih => intro k k' hk b o ho; exact ih _ _ (fun its q => hk _ q) (b o ho)
    refine all _ _ _ (fun its q N => ?_) (cons i v r m n g T t h' tk hT F)
    refine wpAny_mono (q N) (fun _ s₂ q2 => wpAny_mono q2 (fun fl s₃ q3 => ?_) fun _ _ e => e) fun _ _ e => e
    have fin : UnrEndW h₀ env.locals { s with heap := h', toks := tk } its (fun m' n' => SubL [] n' ∧ SubG (G (i + 1) r) m' n') s₃ →
        UnrEndW h₀ env.locals { s with heap := h', toks := tk } its (fun m' n' => SubL [] n' ∧ ItemsRest prog w A E h₀ env target body Q s ws [] (enumItems (i + 1) r) m' n') s₃ := by
      rintro ⟨a, b, c, d, e1, e2, e3, e4, e5, n'', e6, e7⟩
      exact ⟨a, b, c, d, e1, e2, e3, e4, e5, items_sub e6 (items_enum G nil cons r _ _ _ e7)⟩
    cases fl with
    | ret v => exact q3
    | brk => exact q3
    | next => exact fin q3
    | cont => exact fin q3
end
section
variable {prog : Program} {w : World} {A : Around} {E : Value → Shared → Prop} {s : Shared} {env : Env} {h₀ : Heap} {body orelse : List Stmt} {Q : Flow → Shared → Prop} {xi xc : Str} {I : Addr} {i : Nat}
/-- the turns over a table's pairs by what holds between them -/
theorem else_ind (H : List (Int × Str) → (Str → Option Value) → List (Addr × Obj) → Prop)
    (nil : ∀ m n, H [] m n → ∀ h tk, Fr h₀ env.locals h m → News h₀ env.locals h n → wpAny (model prog w) A (execs orelse env) Q E { s with heap := h, toks := tk })
    (cons : ∀ b t c t' r m n, (i = 0 ∨ mskBits.contains b = true) → H ((b, c) :: r) m n → ∀ (it : Obj) h tk, Fr h₀ env.locals h (fun y => if y = xc then some (.str c t') else if y = xi then some (.int b t) else m y) → News h₀ env.locals h ((I, it) :: n) →
      wpAny (model prog w) A (execs body env) (UnrPost h₀ env.locals { s with heap := h, toks := tk } I it (H r) Q) E { s with heap := h, toks := tk }) :
    ∀ ps bs m n, RowIs i ps bs → H bs m n → ElseRest prog w A E h₀ env xi xc body orelse Q s I ps m n
  | _, _, m, n, .nil, g => nil m n g
  | _, _, m, n, .cons (b := b) (c := c) (t := t) (t' := t') (ps := ps) (bs := bs) hb hr, g => by
    refine ElseRest.succ fun it h tk F N => ?_
    refine wpAny_mono (cons b t c t' bs m n hb g it h tk F N) (fun fl s₃ q => ?_) fun _ _ e => e
    have fin : UnrEnd h₀ env.locals { s with heap := h, toks := tk } I it (H bs) s₃ → UnrEnd h₀ env.locals { s with heap := h, toks := tk } I it (ElseRest prog w A E h₀ env xi xc body orelse Q s I ps) s₃ := by
      rintro ⟨a, b, c, d, e1, e2, e3, e4, e5⟩
      exact ⟨a, b, c, d, e1, e2, e3, e4, else_ind H nil cons ps bs _ _ hr e5⟩
    cases fl with
    | ret v => exact q
    | brk => exact q
    | next => exact fin q
    | cont => exact fin q
end
end
section
example : True := by
  w_top off
  trivial
section
variable {prog : Program} {w : World} {A : Around} {E : Value → Shared → Prop} {s : Shared} {Q : Value → Shared → Prop}
theorem abs_nn {a : Int} {t : Tok} (h0 : 0 ≤ a) (h : ∀ u tk, Q (.int a u) { s with toks := tk }) : wpAny (model prog w) A (call (.builtin "abs") [.int a t]) Q E s := by
  refine call_abs_int fun u tk => ?_
  rw [if_neg (by omega)]
  exact h u tk
theorem divmod16 {h₀ : Heap} {L : Addr} {m : Str → Option Value} {news : List (Addr × Obj)} {a : Int} {t u : Tok} (F : Fr h₀ L s.heap m) (N : News h₀ L s.heap news) (h0 : 0 ≤ a) (h1 : a < 4096)
    (h : ∀ D h' x y, Fr h₀ L h' m → News h₀ L h' ((D, { cls := .type "tuple", data := .seq #[.int (a / 16) x, .int (a % 16) y] }) :: news) → (∀ p ∈ news, p.1 < D) → Q (.ref D) { s with toks := s.toks + 1 + 1, heap := h' }) :
    wpAny (model prog w) A (call (.builtin "divmod") [.int a t, .int 16 u]) Q E s := by
  refine divmod_N F N (by decide) (fun h' F' N' => ?_) (Or.inl (PyProof.noPylong_small (by omega)))
  rw [Int.fdiv_eq_ediv_of_nonneg _ (by decide), Int.fmod_eq_emod_of_nonneg _ (by decide)] at N'
  exact h _ h' _ _ F' N' fun p hp => Heap.lt_size (N p hp).1
noncomputable def apI : List Int := [65, 66, 67, 68, 69, 70, 71, 72, 73, 74, 75, 76, 77, 78, 79, 80]
theorem apI_all : ∀ i : Fin 16, (apI.drop (clipAt apI.length ((i.1 : Nat) : Int))).take (clipAt apI.length (((i.1 : Nat) : Int) + 1) - clipAt apI.length ((i.1 : Nat) : Int)) = [65 + ((i.1 : Nat) : Int)] := by decide +kernel
theorem ap_slice {value slice : Expr} {b : Array UInt8} {t : Tok} {h₀ : Heap} {L : Addr} {m : Str → Option Value} {news : List (Addr × Obj)} {l u : Value} {i : Int} (hF : Fr h₀ L s.heap m) (hN : News h₀ L s.heap news) (hk : KBw.bInts b = apI) (hl : IsPart l (some i)) (hu : IsPart u (some (i + 1))) (h0 : 0 ≤ i) (h1 : i < 16)
    (h : ∀ h' t' k arr, Fr h₀ L h' m → News h₀ L h' news → KBw.bInts arr = [65 + i] → Q (.bytes arr t') { s with heap := h', toks := k })
    (hs : subscripted slice false (.bytes b t) (.ref s.heap.objs.size) = operate [.ref s.heap.objs.size, .bytes b t] (getItem (.bytes b t) (.ref s.heap.objs.size)) := by with_unfolding_all rfl)
    (ht : ∀ r, letTemporaryGo value (.bytes b t) r = pure () := by intro _; with_unfolding_all rfl) :
    wpAny (model prog w) A (subscriptTail value slice (.bytes b t) (.ref s.heap.objs.size)) Q E { s with heap := s.heap.push { cls := .type "slice", data := .fields #[l, u, .none] } } := by
  have hi := apI_all ⟨i.toNat, by omega⟩
  have e : ((i.toNat : Nat) : Int) = i := Int.toNat_of_nonneg h0
  simp only [e] at hi
  exact KBc.slice_K hF hN hk hl hu (by decide) (fun h' t' k F' N' hb => h h' t' k _ F' N' (hb.trans hi)) hs ht
end
/-- the letters of Int2AP, as codes -/
noncomputable def apL (n : Int) : List Int := if n = 0 then [] else if n < 16 then [65 + n] else if n < 256 then [65 + n / 16, 65 + n % 16] else [65 + n / 256, 65 + n / 16 % 16, 65 + n % 16]
theorem apL0 {n : Int} (h : n = 0) : ([] : List Int) = apL n := by subst h; rfl
theorem apL1 {n : Int} (h0 : 1 ≤ n) (h1 : n < 16) : [65 + n % 16] ++ ([] : List Int) = apL n := by
  unfold apL
  rw [if_neg (by omega), if_pos h1, show n % 16 = n by omega]
  rfl
theorem apL2 {n : Int} (h0 : 16 ≤ n) (h1 : n < 256) : [65 + n / 16 % 16] ++ ([65 + n % 16] ++ ([] : List Int)) = apL n := by
  unfold apL
  rw [if_neg (by omega), if_neg (by omega), if_pos h1, show n / 16 % 16 = n / 16 by omega]
  rfl
theorem apL3 {n : Int} (h0 : 256 ≤ n) (h1 : n < 4096) : [65 + n / 16 / 16 % 16] ++ ([65 + n / 16 % 16] ++ ([65 + n % 16] ++ ([] : List Int))) = apL n := by
  unfold apL
  rw [if_neg (by omega), if_neg (by omega), if_neg (by omega), show n / 16 / 16 % 16 = n / 256 by omega]
  rfl
theorem whlIf_int {x : Int} {T F : Prop} (h0 : x = 0 → F) (h1 : x ≠ 0 → T) : WhlIf (x != 0) T F := by
  by_cases h : x = 0
  · exact WhlIf.no (bne_eq_false_iff_eq.mpr h) (h0 h)
  · exact WhlIf.yes (bne_iff_ne.mpr h) (h1 h)
end
section
example : True := by
  w_top off
  trivial
section
variable {w : World} {f : Addr} {d : Nat} {vs : List Value} {kw : List (Str × Value)} {pre : Heap → Prop} {post : Heap → Heap → Value → Prop} {prog p : Program} {loose : List Str} {mean : ExcName → Option Value} {mg mb : Str → Option Value} {dp un : Nat} {gd : Option (List Code)} {cn : Str} {cs : Scope} {a : Addr} {ccd : Value} {cl : List (Str × Addr)} {outer : List Env} {A₀ : Around} {base h₀ : Heap} {L : Addr} {m : Str → Option Value} {s : Shared} {Q E : Value → Shared → Prop} {news : List (Addr × Obj)}
theorem fr_stays {h h' : Heap} (F : Fr h₀ L h m) (st : h.StaysIn h') : Fr h₀ L h' m := ⟨F.ns.keeps st, fun b o e => st b o (F.keep b o e), F.above⟩
theorem news_stays {h h' : Heap} (N : News h₀ L h news) (st : h.StaysIn h') : News h₀ L h' news := fun p hp => ⟨st _ _ (N p hp).1, (N p hp).2⟩
theorem Claim.use (C : Claim w f d vs kw pre post) (B : Below A₀ base outer h₀) (F : Fr h₀ L s.heap m) (X : (hd.heap_39 w.params).In h₀) (N : News h₀ L s.heap news) (T : Top p loose mean mg mb h₀) (hk : cs.kind = .function) (hp : pre s.heap) (hd : dp + d < recursionLimit) (hu : un + 8 * d < cLine)
    (ret : ∀ v h' tk', Fr h₀ L h' m → News h₀ L h' news → post s.heap h' v → Q v { s with heap := h', toks := tk' }) :
    wpAny (model prog w) (ktrTop dp un gd cn cs L a ccd cl outer) (call (.ref f) vs kw) Q E s :=
  C _ _ _ _ _ _ _ _ _ _ _ _ _ _ _ _ _ _ _ _ _ _ _ B F X T hk hp hd hu fun v h' tk' st q => ret v h' tk' (fr_stays F st) (news_stays N st) q
/-- a call that brings a text -/
theorem Claim.useS {x : Str} (C : Claim w f d vs kw pre (fun _ _ v => ∃ t, v = .str x t)) (B : Below A₀ base outer h₀) (F : Fr h₀ L s.heap m) (X : (hd.heap_39 w.params).In h₀) (N : News h₀ L s.heap news) (T : Top p loose mean mg mb h₀) (hk : cs.kind = .function) (hp : pre s.heap) (hd : dp + d < recursionLimit) (hu : un + 8 * d < cLine)
    (ret : ∀ t h' tk', Fr h₀ L h' m → News h₀ L h' news → Q (.str x t) { s with heap := h', toks := tk' }) :
    wpAny (model prog w) (ktrTop dp un gd cn cs L a ccd cl outer) (call (.ref f) vs kw) Q E s :=
  C.use B F X N T hk hp hd hu fun v h' tk' F' N' ⟨t, e⟩ => by subst e; exact ret t h' tk' F' N'
/-- a call that brings an int -/
theorem Claim.useI {x : Int} (C : Claim w f d vs kw pre (fun _ _ v => ∃ t, v = .int x t)) (B : Below A₀ base outer h₀) (F : Fr h₀ L s.heap m) (X : (hd.heap_39 w.params).In h₀) (N : News h₀ L s.heap news) (T : Top p loose mean mg mb h₀) (hk : cs.kind = .function) (hp : pre s.heap) (hd : dp + d < recursionLimit) (hu : un + 8 * d < cLine)
    (ret : ∀ t h' tk', Fr h₀ L h' m → News h₀ L h' news → Q (.int x t) { s with heap := h', toks := tk' }) :
    wpAny (model prog w) (ktrTop dp un gd cn cs L a ccd cl outer) (call (.ref f) vs kw) Q E s :=
  C.use B F X N T hk hp hd hu fun v h' tk' F' N' ⟨t, e⟩ => by subst e; exact ret t h' tk' F' N'
/-- a call that brings bytes -/
theorem Claim.useB {l : List Int} (C : Claim w f d vs kw pre (fun _ _ v => ∃ arr t, v = .bytes arr t ∧ KBw.bInts arr = l)) (B : Below A₀ base outer h₀) (F : Fr h₀ L s.heap m) (X : (hd.heap_39 w.params).In h₀) (N : News h₀ L s.heap news) (T : Top p loose mean mg mb h₀) (hk : cs.kind = .function) (hp : pre s.heap) (hd : dp + d < recursionLimit) (hu : un + 8 * d < cLine)
    (ret : ∀ arr t h' tk', Fr h₀ L h' m → News h₀ L h' news → KBw.bInts arr = l → Q (.bytes arr t) { s with heap := h', toks := tk' }) :
    wpAny (model prog w) (ktrTop dp un gd cn cs L a ccd cl outer) (call (.ref f) vs kw) Q E s :=
  C.use B F X N T hk hp hd hu fun v h' tk' F' N' ⟨arr, t, e, hb⟩ => by subst e; exact ret arr t h' tk' F' N' hb
def AllNe (d : Nat) : List (Addr × Obj) → Prop
  | [] => True
  | p :: r => ¬ (@Eq Nat p.1 d) ∧ AllNe d r
theorem allNe_of {d : Addr} : ∀ {l : List (Addr × Obj)}, (∀ p ∈ l, p.1 ≠ d) → AllNe d l
  | [], _ => trivial
  | p :: _, h => ⟨h p (.head _), allNe_of fun q hq => h q (.tail _ hq)⟩
/-- a call that brings a new list of three ints -/
theorem Claim.useL {x y z : Int} (C : Claim w f d vs kw pre (fun h h' v => ∃ l ta tb tc n, v = .ref l ∧ h.get? l = none ∧ h'.get? l = some (W.listOf [Value.int x ta, Value.int y tb, Value.int z tc].toArray n))) (B : Below A₀ base outer h₀) (F : Fr h₀ L s.heap m) (X : (hd.heap_39 w.params).In h₀) (N : News h₀ L s.heap news) (T : Top p loose mean mg mb h₀) (hk : cs.kind = .function) (hp : pre s.heap) (hd : dp + d < recursionLimit) (hu : un + 8 * d < cLine)
    (ret : ∀ l ta tb tc n h' tk', Fr h₀ L h' m → News h₀ L h' ((l, W.listOf [Value.int x ta, Value.int y tb, Value.int z tc].toArray n) :: news) → AllNe l news → Q (.ref l) { s with heap := h', toks := tk' }) :
    wpAny (model prog w) (ktrTop dp un gd cn cs L a ccd cl outer) (call (.ref f) vs kw) Q E s :=
  C.use B F X N T hk hp hd hu fun v h' tk' F' N' ⟨l, ta, tb, tc, n, e, h1, h2⟩ => by
    subst e
    refine ret l ta tb tc n h' tk' F' (fun p hp => ?_) (allNe_of fun p hp e => ?_)
    · rcases List.mem_cons.mp hp with rfl | hp
      · refine ⟨h2, fun e => ?_, ?_⟩
        · obtain ⟨o, _, _, ho, _⟩ := F.ns
          have e' : l = L := e
          rw [e', ho] at h1
          cases h1
        · cases q : h₀.get? l with
          | none => rfl
          | some o => rw [F.keep _ _ q] at h1; cases h1
      · exact N' p hp
    · have := (N p hp).1
      rw [e, h1] at this
      cases this
end
section
variable {prog : Program} {w : World} {A : Around} {E : Value → Shared → Prop} {s : Shared} {Q : Value → Shared → Prop}
theorem fdivR {a b : Int} {t u : Tok} (hb : 0 < b) (hb1 : b < 1073741824) (h0 : 0 ≤ a) (h1 : a < 1073741824) (h : Q (.int (a / b) s.toks) { s with toks := s.toks + 1 }) : wpAny (model prog w) A (binaryOp .FloorDiv (.int a t) (.int b u)) Q E s :=
  floordiv_int (by omega) (by rw [Int.fdiv_eq_ediv_of_nonneg _ (by omega)]; exact h) (Or.inl (PyProof.noPylong_small (by omega)))
theorem fmodR {a b : Int} {t u : Tok} (hb : 0 < b) (h : Q (.int (a % b) s.toks) { s with toks := s.toks + 1 }) : wpAny (model prog w) A (binaryOp .Mod (.int a t) (.int b u)) Q E s :=
  mod_int' (by omega) (by rw [Int.fmod_eq_emod_of_nonneg _ (by omega)]; exact h)
end
theorem units_of {un k d : Nat} (h : un + 8 * d < cLine) (hk : 3 + 8 * k ≤ 8 * d) : un + 3 + 8 * k < cLine :=
  Nat.lt_of_le_of_lt (by rw [Nat.add_assoc]; exact Nat.add_le_add_left hk un) h
theorem room_of {dp k d : Nat} (h : dp + d < recursionLimit) (hk : 1 + k ≤ d) : dp + 1 + k < recursionLimit :=
  Nat.lt_of_le_of_lt (by rw [Nat.add_assoc]; exact Nat.add_le_add_left hk dp) h
theorem tokG {α : Type} {M : Model} {A : Around} {t : Sem α} {Q : α → Shared → Prop} {E : Value → Shared → Prop} {s : Shared} (h : ∀ tk, wpAny M A t Q E ⟨s.heap, s.gens, s.drawn, tk, s.os⟩) : wpAny M A t Q E s := h s.toks
end
section
example : True := by
  w_top off
  trivial
section
variable {prog : Program} {w : World} {A : Around} {E : Value → Shared → Prop} {s : Shared} {h₀ : Heap} {L : Addr} {m : Str → Option Value} {env : Env}
/-- a comprehension's source that is bytes -/
def SrcB (prog : Program) (w : World) (A : Around) (h₀ : Heap) (L : Addr) (m : Str → Option Value) (env : Env) (elt : Expr) (x : Str) (scope : Scope) (cl : List (Str × Addr)) (Fin : Shared → List Value → List (Addr × Obj) → Prop) (xv : Value) (s₁ : Shared) : Prop :=
  ∃ b t ks news, xv = .bytes b t ∧ A.handled = none ∧ Fr h₀ L s₁.heap m ∧ News h₀ L s₁.heap news ∧ KBw.bInts b = ks ∧ ks.length ≤ sizeLine ∧
    ∀ s₂ : Shared, (∃ h, s₂ = { s₁ with heap := h }) → LCg.CompRest prog w A h₀ L m env elt x scope cl s₂ (fun _ => True) (fun i v => ∃ t c, ks[i]? = some c ∧ v = .int c t ∧ 0 ≤ c ∧ c < 256) (Fin s₂) ks.length 0 [] news
theorem SrcB.of {elt : Expr} {x : Str} {scope : Scope} {cl : List (Str × Addr)} {Fin : Shared → List Value → List (Addr × Obj) → Prop} {b : Array UInt8} {t : Tok} {ks : List Int} {news : List (Addr × Obj)} {s₁ : Shared}
    (hh : A.handled = none) (F : Fr h₀ L s₁.heap m) (N : News h₀ L s₁.heap news) (hk : KBw.bInts b = ks) (hsz : ks.length ≤ sizeLine)
    (h : ∀ g, LCg.CompRest prog w A h₀ L m env elt x scope cl { s₁ with heap := g } (fun _ => True) (fun i v => ∃ t c, ks[i]? = some c ∧ v = .int c t ∧ 0 ≤ c ∧ c < 256) (Fin { s₁ with heap := g }) ks.length 0 [] news) :
    SrcB prog w A h₀ L m env elt x scope cl Fin (.bytes b t) s₁ := ⟨b, t, ks, news, rfl, hh, F, N, hk, hsz, fun _ ⟨g, e⟩ => e ▸ h g⟩
theorem walksB {A : Around} (hh : A.handled = none) (I : Addr) (b : Array UInt8) (t : Tok) {ks : List Int} (hk : KBw.bInts b = ks) :
    Walks prog w A I [I] [I] ks.length (fun i v => ∃ t c, ks[i]? = some c ∧ v = .int c t ∧ 0 ≤ c ∧ c < 256) (fun i h => KBw.IsBytesIter h I b t i) := by
  have W := KBw.walks (prog := prog) (w := w) hh I b t
  have hl : ks.length = b.size := by rw [← hk, KBw.ints_length]
  rw [hl]
  refine ⟨W.sub, W.frame, fun i s Q E hi st hQ => W.item i s Q E hi st fun v h' tk hP => hQ v h' tk ?_, W.done, W.self⟩
  obtain ⟨c, u, hc, rfl⟩ := hP
  have h1 := c.toNat_lt
  exact ⟨u, _, hk ▸ KBw.ints_get hc, rfl, by omega, by omega⟩

theorem ListComp_B {elt iter : Expr} {x : Str} {px : Pos} {scope : Scope} {cl : List (Str × Addr)} {pos : Pos} {Q : Value → Shared → Prop} (_F₀ : Fr h₀ L s.heap m)
    (hclos : closureFor scope env = pure cl) (hcell : ∀ y ∈ scope.names, y.2 ≠ .cell) (hkind : scope.kind = .function)
    (hnames : ∀ y ∈ scope.names, y.2 = .local → scope.names.lookup y.1 = some .local) (hx : scope.names.lookup x = some .local)
    (h : wpAny (model prog w) A (eval iter env) (SrcB prog w A h₀ L m env elt x scope cl (fun s₂ => LCg.FinE h₀ L m s₂ Q)) E s)
    (hs : ∀ x, foldedSetIterable iter env x = pure x) :
    wpAny (model prog w) A (eval (.ListComp elt [⟨.Name x px, iter, [], 0⟩] scope pos) env) Q E s := by
  rw [eval_ListComp]
  refine wpAny_comprehension_free (use := none) rfl hs hclos hkind hnames (wpAny_mono h (fun xv s₁ h₁ => ?_) fun _ _ e => e)
  obtain ⟨b, t, ks, news, rfl, hh, F, N, hk, hsz, R⟩ := h₁
  refine KBw.pyIter_bytes ?_
  refine LCg.block_U (walksB hh s₁.heap.objs.size b t hk) hsz (fun i h st => by obtain ⟨o, e, _⟩ := st; exact ⟨o, e⟩) (fun i h h' o nw st e e' _ _ _ => ?_) hcell hkind hx ⟨_, Heap.get?_push_size _ rfl, rfl, rfl⟩ (fun b hb => ?_)
    (F.keeps fun _ _ e => Heap.get?_push_of_some _ e) (N.grown fun _ _ e => Heap.get?_push_of_some _ e) (Nat.ne_of_lt F.ns.lt) (next_is_new F) (fun p hp => Nat.ne_of_lt (Heap.lt_size (N p hp).1)) trivial (R _ ⟨_, rfl⟩) ?_
  · obtain ⟨o', q, r⟩ := st
    rw [e] at q
    cases q
    exact ⟨o, e', r⟩
  · rw [List.mem_singleton.mp hb]
    show s₁.heap.objs.size < (s₁.heap.push _).objs.size
    rw [Heap.size_push]; exact Nat.lt_succ_self _
  · intro D C h tk m' ys news' F' N' o1 hn hC₀ hD₀ hCL hDL hCD offC fin
    refine ⟨m', hn, fun h'' hs'' => fin D h'' tk (F'.change hs'' hCL hC₀) (fun p hp => ?_) o1⟩
    refine ⟨hs''.extBut _ _ ?_ (N' p hp).1, (N' p hp).2⟩
    rcases List.mem_cons.mp hp with rfl | hp
    · exact Ne.symm hCD
    · exact offC p hp
end
section
variable {prog : Program} {w : World} {A : Around} {E : Value → Shared → Prop} {s : Shared} {Q : Value → Shared → Prop}
theorem len_j {x : Str} {t : Tok} (k : Nat) (e : x.length = k) (hk : k ≤ 16) (h : Q (.int ((k : Nat) : Int) (s.toks + 1)) { s with toks := s.toks + 1 + 1 }) : wpAny (model prog w) A (call (.builtin "len") [.str x t]) Q E s := by
  subst e
  exact P.len_str (by omega) h
theorem join4 {D : Addr} {x : Str} {t t1 t2 t3 t4 : Tok} {x1 x2 x3 x4 : Str} (hl : s.heap.IsList D [Value.str x1 t1, Value.str x2 t2, Value.str x3 t3, Value.str x4 t4].toArray) (hx : x.length = 0) (h1 : x1.length ≤ 3) (h2 : x2.length ≤ 3) (h3 : x3.length ≤ 3) (h4 : x4.length ≤ 3)
    (h : ∀ t' k, Q (.str (Txt.join x [x1, x2, x3, x4]) t') { s with toks := k }) : wpAny (model prog w) A (call (.builtin "str.join") [.str x t, .ref D]) Q E s :=
  join_listW hl (.cons _ _ (.cons _ _ (.cons _ _ (.cons _ _ .nil)))) (by omega) (by simp only [List.map_cons, List.map_nil, List.sum_cons, List.sum_nil, List.length_cons, List.length_nil]; omega) h
theorem join2 {D : Addr} {x : Str} {t t1 t2 : Tok} {x1 x2 : Str} (hl : s.heap.IsList D [Value.str x1 t1, Value.str x2 t2].toArray) (hx : x.length = 0) (h1 : x1.length ≤ 3) (h2 : x2.length ≤ 3)
    (h : ∀ t' k, Q (.str (Txt.join x [x1, x2]) t') { s with toks := k }) : wpAny (model prog w) A (call (.builtin "str.join") [.str x t, .ref D]) Q E s :=
  join_listW hl (.cons _ _ (.cons _ _ .nil)) (by omega) (by simp only [List.map_cons, List.map_nil, List.sum_cons, List.sum_nil, List.length_cons, List.length_nil]; omega) h
theorem join1 {D : Addr} {x : Str} {t t1 : Tok} {x1 : Str} (hl : s.heap.IsList D [Value.str x1 t1].toArray) (hx : x.length = 0) (h1 : x1.length ≤ 3)
    (h : ∀ t' k, Q (.str (Txt.join x [x1]) t') { s with toks := k }) : wpAny (model prog w) A (call (.builtin "str.join") [.str x t, .ref D]) Q E s :=
  join_listW hl (.cons _ _ .nil) (by omega) (by simp only [List.map_cons, List.map_nil, List.sum_cons, List.sum_nil, List.length_cons, List.length_nil]; omega) h
theorem join0 {D : Addr} {x : Str} {t : Tok} (hl : s.heap.IsList D ([] : List Value).toArray) (hx : x.length = 0)
    (h : ∀ t' k, Q (.str (Txt.join x []) t') { s with toks := k }) : wpAny (model prog w) A (call (.builtin "str.join") [.str x t, .ref D]) Q E s :=
  join_listW hl .nil (by omega) (by simp) h
end
/-- the four signs of three octets -/
noncomputable def four (n : Int) : Str := ⟨#[tab (n / 262144), tab (n / 4096 % 64), tab (n / 64 % 64), tab (n % 64)]⟩
theorem four_end {n : Int} {t : Tok} (h0 : 0 ≤ n) (h1 : n < 16777216) : Value.str (Txt.join (Str.ofString "") [⟨#[((tab (n / 65536 / 4) : Nat) : Int).toNat]⟩, ⟨#[((tab (n / 65536 % 4 * 16 + n / 256 % 256 / 16) : Nat) : Int).toNat]⟩, ⟨#[((tab (n / 256 % 256 % 16 * 4 + n % 256 / 64) : Nat) : Int).toNat]⟩, ⟨#[((tab (n % 256 % 64) : Nat) : Int).toNat]⟩]) t = Value.str (four n) t := by
  rw [show n / 65536 / 4 = n / 262144 by omega, show n / 65536 % 4 * 16 + n / 256 % 256 / 16 = n / 4096 % 64 by omega, show n / 256 % 256 % 16 * 4 + n % 256 / 64 = n / 64 % 64 by omega, show n % 256 % 64 = n % 64 by omega]
  rfl
theorem four_txt {n : Int} (h0 : 0 ≤ n) (h1 : n < 262144) : four n = txt 64 (n / 4096) (n / 64 % 64) (n % 64) := by
  unfold four
  rw [show n / 262144 = 0 by omega, show n / 4096 % 64 = n / 4096 by omega]
  rfl
theorem join_flat : ∀ xs : List Str, (Str.join ⟨#[]⟩ xs).cps.toList = xs.flatMap (fun y => y.cps.toList)
  | [] => rfl
  | [x] => (List.append_nil _).symm
  | x :: y :: r => by
    show (x.cps ++ #[] ++ (Str.join ⟨#[]⟩ (y :: r)).cps).toList = x.cps.toList ++ (y :: r).flatMap (fun y => y.cps.toList)
    rw [Array.append_empty, Array.toList_append, join_flat (y :: r)]
theorem fm_all : ∀ n : Fin 512, (sigs ((n.1 : Nat) : Int) 0 fmRowsN).flatMap (fun y => y.cps.toList) = 45 :: (oct (((n.1 : Nat) : Int) / 64) ++ oct (((n.1 : Nat) : Int) / 8 % 8) ++ oct (((n.1 : Nat) : Int) % 8)) := by decide +kernel
theorem fm_txt {n : Int} (h0 : 0 ≤ n) (h1 : n < 512) : fmText n = txt 8 (n / 64) (n / 8 % 8) (n % 8) := by
  have h := fm_all ⟨n.toNat, by omega⟩
  have e : ((n.toNat : Nat) : Int) = n := Int.toNat_of_nonneg h0
  simp only [e] at h
  have hj := join_flat (sigs n 0 fmRowsN)
  rw [h] at hj
  unfold fmText
  rw [fm_rows, show Str.ofString "" = ⟨#[]⟩ by decide +kernel]
  unfold Txt.join
  rw [StrLaws.glued_eq_join]
  refine Str.ext' (Array.toList_inj.mp ?_)
  rw [hj]
  rfl
theorem tab16 : ∀ i : Fin 16, tab ((i.1 : Nat) : Int) = (65 + ((i.1 : Nat) : Int)).toNat := by decide +kernel
theorem tab_16 {i : Int} (h0 : 0 ≤ i) (h1 : i < 16) : tab i = (65 + i).toNat := by
  have h := tab16 ⟨i.toNat, by omega⟩
  have e : ((i.toNat : Nat) : Int) = i := Int.toNat_of_nonneg h0
  simp only [e] at h
  exact h
theorem apE0 {n : Int} (h : n = 0) : apL n = [] := (apL0 h).symm
theorem apE1 {n : Int} (h0 : 1 ≤ n) (h1 : n < 16) : apL n = [65 + n % 16] := (apL1 h0 h1).symm
theorem apE2 {n : Int} (h0 : 16 ≤ n) (h1 : n < 256) : apL n = [65 + n / 16 % 16, 65 + n % 16] := (apL2 h0 h1).symm
theorem apE3 {n : Int} (h0 : 256 ≤ n) (h1 : n < 4096) : apL n = [65 + n / 16 / 16 % 16, 65 + n / 16 % 16, 65 + n % 16] := (apL3 h0 h1).symm
theorem ap_txt {n : Int} (h0 : 0 ≤ n) (h1 : n < 4096) : (⟨#[65, (65 + n / 16 / 16 % 16).toNat, (65 + n / 16 % 16).toNat, (65 + n % 16).toNat]⟩ : Str) = txt 16 (n / 256) (n / 16 % 16) (n % 16) := by
  rw [← tab_16 (i := n / 16 / 16 % 16) (by omega) (by omega), ← tab_16 (i := n / 16 % 16) (by omega) (by omega), ← tab_16 (i := n % 16) (by omega) (by omega), show n / 16 / 16 % 16 = n / 256 by omega]
  rfl
end
local macro_rules | `(tactic| walk_at $s:str) => `(tactic| k_extra $s)
local macro_rules | `(tactic| k_lt $h:ident) => `(tactic| (replace $h := allLt_of $h; dsimp only [AllLt] at $h:ident; (repeat (have hq := And.left $h; replace $h := And.right $h)); (try clear $h)))
local macro_rules | `(tactic| k_ne) => `(tactic| (refine neN ?_; (try dsimp only); first | assumption | exact Ne.symm (by assumption) | exact Nat.ne_of_lt (by assumption) | exact Nat.ne_of_gt (by assumption) | omega))
section
example : True := by
  w_top off
  k_with_none
  k_with "cell_enter" =>
    (refine' callG_plain ?k1Z9 ?k2Z9 ?k3Z9 ?k5Z9 ?kAZ9 ?kFZ9 ?kKZ9 ?k6Z9 ?k7Z9 ?k8Z9 ?k9Z9 ?kBZ9 ?_ ?c2Z9 ?c3Z9 ?c4Z9 ?c5Z9; (case kAZ9 => exact rfl); (case kFZ9 => exact rfl); (case kKZ9 => assumption); (case k1Z9 => k_asm); (case k2Z9 => k_asm); (case k3Z9 => k_asm); (case k5Z9 => k_asm); (case k6Z9 => k_is); (case k7Z9 => k_is); (case k8Z9 => ktr_room); (case k9Z9 => first | exact BindsTo.of_eq rfl | exact binds_K (by k_in) rfl (by k_is) rfl rfl rfl); (case c5Z9 => decide); (case kBZ9 => exact locs rfl); (case c2Z9 => exact rfl); (case c3Z9 => exact rfl); (case c4Z9 => exact rfl); k_whole; intro L' h' F' N' B' X' T'; (try dsimp only); (try k_fold))
  k_with "ktr_enter" =>
    (refine' callG_cells ?k1Z9 ?k2Z9 ?k3Z9 ?k5Z9 ?kAZ9 ?kFZ9 ?kKZ9 ?k6Z9 ?k7Z9 ?k8Z9 ?k9Z9 ?kBZ9 ?kDZ9 ?_ ?c2Z9 ?c3Z9 ?c4Z9; (case kAZ9 => exact rfl); (case kFZ9 => exact rfl); (case kKZ9 => assumption); (case k1Z9 => k_asm); (case k2Z9 => k_asm); (case k3Z9 => k_asm); (case k5Z9 => k_asm); (case k6Z9 => k_is); (case k7Z9 => k_is); (case k8Z9 => ktr_room); (case k9Z9 => first | exact BindsTo.of_eq rfl | exact binds_K (by k_in) rfl (by k_is) rfl rfl rfl); (case kBZ9 => exact rfl); (case kDZ9 => decide +kernel); (case c2Z9 => exact rfl); (case c3Z9 => exact rfl); (case c4Z9 => exact rfl); k_whole; intro L' h' tk' cells' F' N' Y' B' X' T'; k_cells Y'; (try simp only [List.cons_append, List.nil_append] at N'); (try dsimp only); (try k_fold))
  trivial
example : PySem.Challenge.rw_op0025_01 = PySem.Challenge.rw_op0025_01 ∧ hd.heap_39 = hd.heap_39 := by k_fill; exact ⟨rfl, rfl⟩


theorem number_ok (w : World) (B a b c : Int) (tB ta tb tc : Tok) (l : Addr) (hB : B = 8 ∨ B = 16 ∨ B = 64) (ha : 0 ≤ a ∧ a < B) (hb : 0 ≤ b ∧ b < B) (hc : 0 ≤ c ∧ c < B) :
    Claim w 129 1 [.int B tB, .ref l] [] (fun h => h.IsList l [Value.int a ta, Value.int b tb, Value.int c tc].toArray) (fun _ _ v => ∃ t, v = .int ((a * B + b) * B + c) t) := by
  unfold Claim
  intro prog p loose mean mg mb dp un gd cn cs a' ccd cl outer A₀ base h₀ L m s Q E B0 F X T hk hpre hd hu hret
  obtain ⟨ha0, ha1⟩ := ha
  obtain ⟨hb0, hb1⟩ := hb
  obtain ⟨hc0, hc1⟩ := hc
  refine wpAny_call ?_
  k_dflt (k_extra "cell_enter")
  k_steps
  exact hret _ _ _ (Fr.keep (by k_asm)) ⟨_, rfl⟩

end
local macro_rules | `(tactic| k_room) => `(tactic| ktr_room)
section
example : True := by
  w_top off
  k_with_none
  k_with "cell_enter" =>
    (refine' callG_plain ?k1Z9 ?k2Z9 ?k3Z9 ?k5Z9 ?kAZ9 ?kFZ9 ?kKZ9 ?k6Z9 ?k7Z9 ?k8Z9 ?k9Z9 ?kBZ9 ?_ ?c2Z9 ?c3Z9 ?c4Z9 ?c5Z9; (case kAZ9 => exact rfl); (case kFZ9 => exact rfl); (case kKZ9 => assumption); (case k1Z9 => k_asm); (case k2Z9 => k_asm); (case k3Z9 => k_asm); (case k5Z9 => k_asm); (case k6Z9 => k_is); (case k7Z9 => k_is); (case k8Z9 => ktr_room); (case k9Z9 => first | exact BindsTo.of_eq rfl | exact binds_K (by k_in) rfl (by k_is) rfl rfl rfl); (case c5Z9 => decide); (case kBZ9 => exact locs rfl); (case c2Z9 => exact rfl); (case c3Z9 => exact rfl); (case c4Z9 => exact rfl); k_whole; intro L' h' F' N' B' X' T'; (try dsimp only); (try k_fold))
  k_with "ktr_enter" =>
    (refine' callG_cells ?k1Z9 ?k2Z9 ?k3Z9 ?k5Z9 ?kAZ9 ?kFZ9 ?kKZ9 ?k6Z9 ?k7Z9 ?k8Z9 ?k9Z9 ?kBZ9 ?kDZ9 ?_ ?c2Z9 ?c3Z9 ?c4Z9; (case kAZ9 => exact rfl); (case kFZ9 => exact rfl); (case kKZ9 => assumption); (case k1Z9 => k_asm); (case k2Z9 => k_asm); (case k3Z9 => k_asm); (case k5Z9 => k_asm); (case k6Z9 => k_is); (case k7Z9 => k_is); (case k8Z9 => ktr_room); (case k9Z9 => first | exact BindsTo.of_eq rfl | exact binds_K (by k_in) rfl (by k_is) rfl rfl rfl); (case kBZ9 => exact rfl); (case kDZ9 => decide +kernel); (case c2Z9 => exact rfl); (case c3Z9 => exact rfl); (case c4Z9 => exact rfl); k_whole; intro L' h' tk' cells' F' N' Y' B' X' T'; k_cells Y'; (try simp only [List.cons_append, List.nil_append] at N'); (try dsimp only); (with_reducible show wpAny _ _ _ _ _ _); (try k_fold))
  k_with "subscriptTail Name Name str int" =>
    (k_here; (with_reducible show wpAny _ _ (subscriptTail _ _ (Value.str _ _) (Value.int _ _)) _ _ _); k_dflt (refine' sgn_item ?k1Z9 ?k2Z9 ?_ ?k3Z9 ?k4Z9; (case k1Z9 => omega); (case k2Z9 => omega); (case k3Z9 => with_unfolding_all rfl); (case k4Z9 => intro _; with_unfolding_all rfl); k_whole))
  k_with "call builtin:str.join" =>
    (k_here; (with_reducible show wpAny _ _ (call (Value.builtin "str.join") [Value.str _ _, Value.ref _]) _ _ _); k_dflt (refine' join3 ?k1Z9 ?k2Z9 ?k3Z9 ?k4Z9 ?k5Z9 ?_; (case k1Z9 => is_list); (case k2Z9 => rfl); (case k3Z9 => exact Nat.le_of_ble_eq_true rfl); (case k4Z9 => exact Nat.le_of_ble_eq_true rfl); (case k5Z9 => exact Nat.le_of_ble_eq_true rfl); k_whole); intro _ _)
  k_with "subscriptTail Name Name ref int" =>
    (k_here; (with_reducible show wpAny _ _ (subscriptTail _ _ (Value.ref _) (Value.int _ _)) _ _ _); k_dflt (refine' oct_item ?k1Z9 ?k2Z9 ?k3Z9 ?_ ?k4Z9; (case k1Z9 => is_list); (case k2Z9 => omega); (case k3Z9 => omega); (case k4Z9 => with_unfolding_all rfl); k_whole); intro _)
  k_with "compareOp Eq int int" =>
    (k_here; (with_reducible show wpAny _ _ (compareOp CmpOp.Eq (Value.int _ _) (Value.int _ _)) _ _ _); with_reducible refine eq_no (by assumption) ?_)
  trivial
example : PySem.Challenge.rw_op0025_01 = PySem.Challenge.rw_op0025_01 ∧ hd.heap_39 = hd.heap_39 := by k_fill; exact ⟨rfl, rfl⟩



theorem text_ok (w : World) (B a b c : Int) (tB ta tb tc : Tok) (l : Addr) (hB : B = 8 ∨ B = 16 ∨ B = 64) (ha : 0 ≤ a ∧ a < B) (hb : 0 ≤ b ∧ b < B) (hc : 0 ≤ c ∧ c < B) :
    Claim w 117 2 [.int B tB, .ref l] [] (fun h => h.IsList l [Value.int a ta, Value.int b tb, Value.int c tc].toArray) (fun _ _ v => ∃ t, v = .str (txt B a b c) t) := by
  unfold Claim
  intro prog p loose mean mg mb dp un gd cn cs a' ccd cl outer A₀ base h₀ L m s Q E B0 F X T hk hpre hd hu hret
  obtain ⟨ha0, ha1⟩ := ha
  obtain ⟨hb0, hb1⟩ := hb
  obtain ⟨hc0, hc1⟩ := hc
  rcases hB with rfl | hB
  · refine wpAny_call ?_
    k_dflt (k_extra "ktr_enter")
    k_steps
    exact hret _ _ _ (Fr.keep (by k_asm)) ⟨_, rfl⟩
  · obtain ⟨hB8, hB64⟩ := ne_8 hB
    refine wpAny_call ?_
    k_dflt (k_extra "ktr_enter")
    k_steps
    exact hret _ _ _ (Fr.keep (by k_asm)) ⟨_, congrArg (fun x => Value.str x _) (txt_ne hB)⟩
end
section
example : True := by
  w_top off
  k_with_none
  k_with "cell_enter" =>
    (refine' callG_plain ?k1Z9 ?k2Z9 ?k3Z9 ?k5Z9 ?kAZ9 ?kFZ9 ?kKZ9 ?k6Z9 ?k7Z9 ?k8Z9 ?k9Z9 ?kBZ9 ?_ ?c2Z9 ?c3Z9 ?c4Z9 ?c5Z9; (case kAZ9 => exact rfl); (case kFZ9 => exact rfl); (case kKZ9 => assumption); (case k1Z9 => k_asm); (case k2Z9 => k_asm); (case k3Z9 => k_asm); (case k5Z9 => k_asm); (case k6Z9 => k_is); (case k7Z9 => k_is); (case k8Z9 => ktr_room); (case k9Z9 => first | exact BindsTo.of_eq rfl | exact binds_K (by k_in) rfl (by k_is) rfl rfl rfl); (case c5Z9 => decide); (case kBZ9 => exact locs rfl); (case c2Z9 => exact rfl); (case c3Z9 => exact rfl); (case c4Z9 => exact rfl); k_whole; intro L' h' F' N' B' X' T'; (try dsimp only); (try k_fold))
  k_with "ktr_enter" =>
    (refine' callG_cells ?k1Z9 ?k2Z9 ?k3Z9 ?k5Z9 ?kAZ9 ?kFZ9 ?kKZ9 ?k6Z9 ?k7Z9 ?k8Z9 ?k9Z9 ?kBZ9 ?kDZ9 ?_ ?c2Z9 ?c3Z9 ?c4Z9; (case kAZ9 => exact rfl); (case kFZ9 => exact rfl); (case kKZ9 => assumption); (case k1Z9 => k_asm); (case k2Z9 => k_asm); (case k3Z9 => k_asm); (case k5Z9 => k_asm); (case k6Z9 => k_is); (case k7Z9 => k_is); (case k8Z9 => ktr_room); (case k9Z9 => first | exact BindsTo.of_eq rfl | exact binds_K (by k_in) rfl (by k_is) rfl rfl rfl); (case kBZ9 => exact rfl); (case kDZ9 => decide +kernel); (case c2Z9 => exact rfl); (case c3Z9 => exact rfl); (case c4Z9 => exact rfl); k_whole; intro L' h' tk' cells' F' N' Y' B' X' T'; k_cells Y'; (try simp only [List.cons_append, List.nil_append] at N'); (try dsimp only); (with_reducible show wpAny _ _ _ _ _ _); (try k_fold))
  k_with "subscriptTail Name Name str int" =>
    (k_here; (with_reducible show wpAny _ _ (subscriptTail _ _ (Value.str _ _) (Value.int _ _)) _ _ _); k_dflt (refine' sgn_item ?k1Z9 ?k2Z9 ?_ ?k3Z9 ?k4Z9; (case k1Z9 => omega); (case k2Z9 => omega); (case k3Z9 => with_unfolding_all rfl); (case k4Z9 => intro _; with_unfolding_all rfl); k_whole))
  k_with "call builtin:str.join" =>
    (k_here; (with_reducible show wpAny _ _ (call (Value.builtin "str.join") [Value.str _ _, Value.ref _]) _ _ _); k_dflt (refine' join3 ?k1Z9 ?k2Z9 ?k3Z9 ?k4Z9 ?k5Z9 ?_; (case k1Z9 => is_list); (case k2Z9 => rfl); (case k3Z9 => exact Nat.le_of_ble_eq_true rfl); (case k4Z9 => exact Nat.le_of_ble_eq_true rfl); (case k5Z9 => exact Nat.le_of_ble_eq_true rfl); k_whole); intro _ _)
  k_with "subscriptTail Name Name ref int" =>
    (k_here; (with_reducible show wpAny _ _ (subscriptTail _ _ (Value.ref _) (Value.int _ _)) _ _ _); k_dflt (refine' oct_item ?k1Z9 ?k2Z9 ?k3Z9 ?_ ?k4Z9; (case k1Z9 => is_list); (case k2Z9 => omega); (case k3Z9 => omega); (case k4Z9 => with_unfolding_all rfl); k_whole); intro _)
  k_with "call builtin:str.index" =>
    (k_here; (with_reducible show wpAny _ _ (call (Value.builtin "str.index") [Value.str _ _, Value.str _ _]) _ _ _); k_dflt (refine' sgn_index (slice_txt ?k2Z9 ?k3Z9 ?k4Z9 ?k5Z9) ?k6Z9 ?k7Z9 ?_; (case k2Z9 => decide +kernel); (case k3Z9 => decide +kernel); (case k4Z9 => first | assumption | omega); (case k5Z9 => first | assumption | omega); (case k6Z9 => exact fig_lo (by assumption) (by assumption) (by assumption)); (case k7Z9 => exact Int.lt_of_lt_of_le (fig_hi (by assumption) (by assumption) (by assumption)) (by assumption)); k_whole))
  k_with "call builtin:list.index" =>
    (k_here; (with_reducible show wpAny _ _ (call (Value.builtin "list.index") [Value.ref _, Value.str _ _]) _ _ _); k_dflt (refine' oct_index ?k1Z9 (slice_oct ?k2Z9 ?k3Z9 ?k4Z9 ?k5Z9) ?k6Z9 ?k7Z9 ?_; (case k1Z9 => is_list); (case k2Z9 => decide +kernel); (case k3Z9 => decide +kernel); (case k4Z9 => first | assumption | omega); (case k5Z9 => first | assumption | omega); (case k6Z9 => exact fig_lo (by assumption) (by assumption) (by assumption)); (case k7Z9 => exact fig_hi (by assumption) (by assumption) (by assumption)); k_whole))
  k_with "compareOp Eq int int" =>
    (k_here; (with_reducible show wpAny _ _ (compareOp CmpOp.Eq (Value.int _ _) (Value.int _ _)) _ _ _); with_reducible refine eq_no (by assumption) ?_)
  trivial
example : PySem.Challenge.rw_op0025_01 = PySem.Challenge.rw_op0025_01 ∧ hd.heap_39 = hd.heap_39 := by k_fill; exact ⟨rfl, rfl⟩
set_option maxHeartbeats 1600000


theorem figs_ok (w : World) (B a b c : Int) (tB tt : Tok) (hB : B = 8 ∨ B = 16 ∨ B = 64) (ha : 0 ≤ a ∧ a < B) (hb : 0 ≤ b ∧ b < B) (hc : 0 ≤ c ∧ c < B) :
    Claim w 122 2 [.int B tB, .str (txt B a b c) tt] [] (fun _ => True) (fun h h' v => ∃ l ta tb tc n, v = .ref l ∧ h.get? l = none ∧ h'.get? l = some (W.listOf [Value.int a ta, Value.int b tb, Value.int c tc].toArray n)) := by
  unfold Claim
  intro prog p loose mean mg mb dp un gd cn cs a' ccd cl outer A₀ base h₀ L m s Q E B0 F X T hk hpre hd hu hret
  obtain ⟨ha0, ha1⟩ := ha
  obtain ⟨hb0, hb1⟩ := hb
  obtain ⟨hc0, hc1⟩ := hc
  rcases hB with rfl | hB
  · refine wpAny_call ?_
    k_dflt (k_extra "ktr_enter")
    k_steps
    rename IntsAre _ _ => hI
    obtain ⟨ta, tb, tc, rfl⟩ := figs_end hI
    rename News _ _ _ _ => hN
    exact hret _ _ _ (Fr.keep (by k_asm)) ⟨_, ta, tb, tc, _, rfl, (hN _ (.head _)).2.2, (hN _ (.head _)).1⟩
  · obtain ⟨hB8, hB64⟩ := ne_8 hB
    rw [← txt_ne hB]
    refine wpAny_call ?_
    k_dflt (k_extra "ktr_enter")
    k_steps
    rename IntsAre _ _ => hI
    obtain ⟨ta, tb, tc, rfl⟩ := figs_end hI
    rename News _ _ _ _ => hN
    exact hret _ _ _ (Fr.keep (by k_asm)) ⟨_, ta, tb, tc, _, rfl, (hN _ (.head _)).2.2, (hN _ (.head _)).1⟩
end
section
example : True := by
  w_top off
  k_with_none
  k_with "cell_enter" =>
    (refine' callG_plain ?k1Z9 ?k2Z9 ?k3Z9 ?k5Z9 ?kAZ9 ?kFZ9 ?kKZ9 ?k6Z9 ?k7Z9 ?k8Z9 ?k9Z9 ?kBZ9 ?_ ?c2Z9 ?c3Z9 ?c4Z9 ?c5Z9; (case kAZ9 => exact rfl); (case kFZ9 => exact rfl); (case kKZ9 => assumption); (case k1Z9 => k_asm); (case k2Z9 => k_asm); (case k3Z9 => k_asm); (case k5Z9 => k_asm); (case k6Z9 => k_is); (case k7Z9 => k_is); (case k8Z9 => ktr_room); (case k9Z9 => first | exact BindsTo.of_eq rfl | exact binds_K (by k_in) rfl (by k_is) rfl rfl rfl); (case c5Z9 => decide); (case kBZ9 => exact locs rfl); (case c2Z9 => exact rfl); (case c3Z9 => exact rfl); (case c4Z9 => exact rfl); k_whole; intro L' h' F' N' B' X' T'; (try dsimp only); (try k_fold))
  k_with "ktr_enter" =>
    (refine' callG_cells ?k1Z9 ?k2Z9 ?k3Z9 ?k5Z9 ?kAZ9 ?kFZ9 ?kKZ9 ?k6Z9 ?k7Z9 ?k8Z9 ?k9Z9 ?kBZ9 ?kDZ9 ?_ ?c2Z9 ?c3Z9 ?c4Z9; (case kAZ9 => exact rfl); (case kFZ9 => exact rfl); (case kKZ9 => assumption); (case k1Z9 => k_asm); (case k2Z9 => k_asm); (case k3Z9 => k_asm); (case k5Z9 => k_asm); (case k6Z9 => k_is); (case k7Z9 => k_is); (case k8Z9 => ktr_room); (case k9Z9 => first | exact BindsTo.of_eq rfl | exact binds_K (by k_in) rfl (by k_is) rfl rfl rfl); (case kBZ9 => exact rfl); (case kDZ9 => decide +kernel); (case c2Z9 => exact rfl); (case c3Z9 => exact rfl); (case c4Z9 => exact rfl); k_whole; intro L' h' tk' cells' F' N' Y' B' X' T'; k_cells Y'; (try simp only [List.cons_append, List.nil_append] at N'); (try dsimp only); (with_reducible show wpAny _ _ _ _ _ _); (try k_fold))
  k_with "subscriptTail Name Name str int" =>
    (k_here; (with_reducible show wpAny _ _ (subscriptTail _ _ (Value.str _ _) (Value.int _ _)) _ _ _); k_dflt (refine' sgn_item ?k1Z9 ?k2Z9 ?_ ?k3Z9 ?k4Z9; (case k1Z9 => omega); (case k2Z9 => omega); (case k3Z9 => with_unfolding_all rfl); (case k4Z9 => intro _; with_unfolding_all rfl); k_whole))
  k_with "call builtin:str.join" =>
    (k_here; (with_reducible show wpAny _ _ (call (Value.builtin "str.join") [Value.str _ _, Value.ref _]) _ _ _); k_dflt (refine' join3 ?k1Z9 ?k2Z9 ?k3Z9 ?k4Z9 ?k5Z9 ?_; (case k1Z9 => is_list); (case k2Z9 => rfl); (case k3Z9 => exact Nat.le_of_ble_eq_true rfl); (case k4Z9 => exact Nat.le_of_ble_eq_true rfl); (case k5Z9 => exact Nat.le_of_ble_eq_true rfl); k_whole); intro _ _)
  k_with "subscriptTail Name Name ref int" =>
    (k_here; (with_reducible show wpAny _ _ (subscriptTail _ _ (Value.ref _) (Value.int _ _)) _ _ _); k_dflt (refine' oct_item ?k1Z9 ?k2Z9 ?k3Z9 ?_ ?k4Z9; (case k1Z9 => is_list); (case k2Z9 => omega); (case k3Z9 => omega); (case k4Z9 => with_unfolding_all rfl); k_whole); intro _)
  k_with "call builtin:str.index" =>
    (k_here; (with_reducible show wpAny _ _ (call (Value.builtin "str.index") [Value.str _ _, Value.str _ _]) _ _ _); k_dflt (refine' sgn_index (slice_txt ?k1Z9 ?k2Z9 ?k3Z9 ?k4Z9 ?k5Z9) ?k6Z9 ?k7Z9 ?_; (case k1Z9 => omega); (case k2Z9 => decide +kernel); (case k3Z9 => decide +kernel); (case k4Z9 => omega); (case k5Z9 => omega); (case k6Z9 => unfold fig; omega); (case k7Z9 => unfold fig; omega); k_whole))
  k_with "call builtin:list.index" =>
    (k_here; (with_reducible show wpAny _ _ (call (Value.builtin "list.index") [Value.ref _, Value.str _ _]) _ _ _); k_dflt (refine' oct_index ?k1Z9 (slice_oct ?k2Z9 ?k3Z9 ?k4Z9 ?k5Z9) ?k6Z9 ?k7Z9 ?_; (case k1Z9 => is_list); (case k2Z9 => decide +kernel); (case k3Z9 => decide +kernel); (case k4Z9 => omega); (case k5Z9 => omega); (case k6Z9 => unfold fig; omega); (case k7Z9 => unfold fig; omega); k_whole))
  k_with "call type:type" =>
    (k_here; (with_reducible show wpAny _ _ (call (Value.type "type") [Value.bytes _ _]) _ _ _); refine call_type_of (typeIs_bytes _ _ _) (by decide +kernel) ?_)
  k_with "pyIter bytes" =>
    ((with_reducible show wpAny _ _ (pyIter (Value.bytes _ _)) (fun it s₂ => LoopAtV _ _ _ _ _ _ _ _ _ it s₂) _ _); k_here; k_bytesUnr)
  k_with "binaryOp BitOr int int" =>
    (k_here; (with_reducible show wpAny _ _ (binaryOp Operator.BitOr (Value.int (_ * 2 ^ Int.toNat 8) _) (Value.int _ _)) _ _ _); k_dflt (refine' or_byteR ?k1Z9 ?k2Z9 ?_; (case k1Z9 => omega); (case k2Z9 => omega); k_whole))
  k_with "binaryOp BitAnd int int" =>
    (k_here; (first | ((with_reducible show wpAny _ _ (binaryOp Operator.BitAnd (Value.int _ _) (Value.int 65535 _)) _ _ _); k_dflt (refine' and16R ?_)) | ((with_reducible show wpAny _ _ (binaryOp Operator.BitAnd (Value.int _ _) (Value.int 63 _)) _ _ _); k_dflt (refine' and6R ?_))))
  k_with "subscriptTail Name BinOp bytes int" =>
    (k_here; (with_reducible show wpAny _ _ (subscriptTail _ _ (Value.bytes _ _) (Value.int (_ % 64) _)) _ _ _); k_dflt (refine' b64_item ?k1Z9 ?k2Z9 ?k3Z9 ?_ ?k4Z9 ?k5Z9; (case k1Z9 => decide +kernel); (case k2Z9 => exact Int.emod_nonneg _ (by decide)); (case k3Z9 => exact Int.emod_lt_of_pos _ (by decide)); (case k4Z9 => with_unfolding_all rfl); (case k5Z9 => intro _; with_unfolding_all rfl); k_whole); intro t' k' tl')
  k_with "call type:bytes" =>
    (k_here; (with_reducible show wpAny _ _ (call (Value.type "bytes") [Value.ref _]) _ _ _); k_dflt (first
      | (refine' bytes4 ?k1Z9 ?k2Z9 ?k3Z9 ?k4Z9 ?k5Z9 ?k6Z9 ?k7Z9 ?k8Z9 ?_; (case k1Z9 => k_asm); (case k2Z9 => k_asm); (case k3Z9 => rfl); (case k4Z9 => is_list); (case k5Z9 => omega); (case k6Z9 => omega); (case k7Z9 => omega); (case k8Z9 => omega); k_whole)
      | (refine' bytes3 ?k1Z9 ?k2Z9 ?k3Z9 ?k4Z9 ?k5Z9 ?k6Z9 ?k7Z9 ?_; (case k1Z9 => k_asm); (case k2Z9 => k_asm); (case k3Z9 => rfl); (case k4Z9 => is_list); (case k5Z9 => omega); (case k6Z9 => omega); (case k7Z9 => omega); k_whole)); intro h' t' k' arr' F' N' kbaI)
  trivial
example : PySem.Challenge.rw_op0025_01 = PySem.Challenge.rw_op0025_01 ∧ hd.heap_39 = hd.heap_39 := by k_fill; exact ⟨rfl, rfl⟩


theorem b64_ok (w : World) (x y z : Int) (ob : Array UInt8) (t : Tok) (hob : KBw.bInts ob = [x, y, z]) (hx0 : 0 ≤ x) (hx1 : x < 256) (hy0 : 0 ≤ y) (hy1 : y < 256) (hz0 : 0 ≤ z) (hz1 : z < 256) :
    Claim w 51 4 [.bytes ob t] [] (fun _ => True) (fun _ _ v => ∃ arr t, v = .bytes arr t ∧ KBw.bInts arr = [((tab (x / 4) : Nat) : Int), ((tab (x % 4 * 16 + y / 16) : Nat) : Int), ((tab (y % 16 * 4 + z / 64) : Nat) : Int), ((tab (z % 64) : Nat) : Int)]) := by
  unfold Claim
  intro prog p loose mean mg mb dp un gd cn cs a' ccd cl outer A₀ base h₀ L m s Q E B0 F X T hk hpre hd hu hret
  refine wpAny_call ?_
  k_dflt (k_extra "cell_enter")
  k_steps
  rename KBw.bInts _ = [_, _, _, _] => hI
  rw [ix0 hx0 hx1, ix1 hx0 hx1 hy0 hy1, ix2 hx0 hx1 hy0 hy1 hz0 hz1, ix3 hx0 hx1 hy0 hy1 hz0 hz1] at hI
  exact hret _ _ _ (Fr.keep (by k_asm)) ⟨_, _, rfl, hI⟩
end
section
example : True := by
  w_top off
  k_with_none
  k_with "cell_enter" =>
    (refine' callG_plain ?k1Z9 ?k2Z9 ?k3Z9 ?k5Z9 ?kAZ9 ?kFZ9 ?kKZ9 ?k6Z9 ?k7Z9 ?k8Z9 ?k9Z9 ?kBZ9 ?_ ?c2Z9 ?c3Z9 ?c4Z9 ?c5Z9; (case kAZ9 => exact rfl); (case kFZ9 => exact rfl); (case kKZ9 => assumption); (case k1Z9 => k_asm); (case k2Z9 => k_asm); (case k3Z9 => k_asm); (case k5Z9 => k_asm); (case k6Z9 => k_is); (case k7Z9 => k_is); (case k8Z9 => ktr_room); (case k9Z9 => first | exact BindsTo.of_eq rfl | exact binds_K (by k_in) rfl (by k_is) rfl rfl rfl); (case c5Z9 => decide); (case kBZ9 => exact locs rfl); (case c2Z9 => exact rfl); (case c3Z9 => exact rfl); (case c4Z9 => exact rfl); k_whole; intro L' h' F' N' B' X' T'; (try dsimp only); (try k_fold))
  k_with "ktr_enter" =>
    (refine' callG_cells ?k1Z9 ?k2Z9 ?k3Z9 ?k5Z9 ?kAZ9 ?kFZ9 ?kKZ9 ?k6Z9 ?k7Z9 ?k8Z9 ?k9Z9 ?kBZ9 ?kDZ9 ?_ ?c2Z9 ?c3Z9 ?c4Z9; (case kAZ9 => exact rfl); (case kFZ9 => exact rfl); (case kKZ9 => assumption); (case k1Z9 => k_asm); (case k2Z9 => k_asm); (case k3Z9 => k_asm); (case k5Z9 => k_asm); (case k6Z9 => k_is); (case k7Z9 => k_is); (case k8Z9 => ktr_room); (case k9Z9 => first | exact BindsTo.of_eq rfl | exact binds_K (by k_in) rfl (by k_is) rfl rfl rfl); (case kBZ9 => exact rfl); (case kDZ9 => decide +kernel); (case c2Z9 => exact rfl); (case c3Z9 => exact rfl); (case c4Z9 => exact rfl); k_whole; intro L' h' tk' cells' F' N' Y' B' X' T'; k_cells Y'; (try simp only [List.cons_append, List.nil_append] at N'); (try dsimp only); (with_reducible show wpAny _ _ _ _ _ _); (try k_fold))
  k_with "exec For Tuple Call" =>
    (k_here; (with_reducible show wpAny _ _ (exec (Stmt.For (Expr.Tuple _ _ _) (Expr.Call (Expr.Name (Str.ofString "enumerate") _) _ _ _) _ _ _) _) _ _ _); (rename Fr _ _ _ _ => lF'); (with_unfolding_all refine' For_turns lF' ?_; k_whole))
  k_with "call type:enumerate" =>
    (k_here; (with_reducible show wpAny _ _ (call (Value.type _) [Value.ref _]) (fun xv s₁ => wpAny _ _ (pyIter xv) (fun it s₂ => TurnsAt _ _ _ _ _ _ _ _ _ it s₂) _ s₁) _ _); (with_unfolding_all refine' enum_stop ?hZ9 ?FZ9 ?NZ9 ?XZ9 ?kZ9 ?cZ9 ?dZ9 ?_; (case hZ9 => with_unfolding_all rfl); (case FZ9 => k_asm); (case NZ9 => k_asm); (case XZ9 => k_asm); (case kZ9 => k_is); (case cZ9 => exact rfl); (case dZ9 => exact rfl); k_whole))
  k_with "exec For Tuple Name" =>
    (k_here; (with_reducible show wpAny _ _ (exec (Stmt.For (Expr.Tuple [Expr.Name _ _, Expr.Name _ _] _ _) (Expr.Name _ _) _ (_ :: _) _) _) _ _ _); (rename Fr _ _ _ _ => lF'); (with_unfolding_all refine' For_else lF' ?hZ9 ?xiZ9 ?xcZ9 ?hpZ9 ?_ ?hsZ9 ?hEZ9; (case hZ9 => with_unfolding_all rfl); (case xiZ9 => with_unfolding_all rfl); (case xcZ9 => with_unfolding_all rfl); (case hpZ9 => with_unfolding_all rfl); (case hsZ9 => intro _; with_unfolding_all rfl); (case hEZ9 => passes_own); k_whole))
  k_with "ktr_unf" =>
    first | exact PairsIn.nil | exact RowIs.nil | exact Tabs.nil | (apply PairsIn.cons; k_is; exact rfl; exact rfl; (k_extra "ktr_unf")) | (refine RowIs.cons (by first | exact .inl rfl | exact .inr (by decide)) ?_; (k_extra "ktr_unf")) | (apply Tabs.cons; k_is; exact rfl; exact rfl; (k_extra "ktr_unf"); (k_extra "ktr_unf"); (k_extra "ktr_unf"))
  k_with "ElseAt" =>
    (k_here; (with_unfolding_all refine' elseAt_K ?FZ9 ?NZ9 ?XZ9 ?kZ9 ?cZ9 ?dZ9 ?pZ9 ?_; (case FZ9 => k_asm); (case NZ9 => k_asm); (case XZ9 => k_asm); (case kZ9 => assumption); (case cZ9 => assumption); (case dZ9 => assumption); (case pZ9 => assumption)); intro i' l1; (try k_lt l1); refine Stop.un ?_)
  k_with "UnrEnd" =>
    (refine unrEnd_head (by assumption) (by assumption) (by k_all) ?_)
  k_with "binaryOp BitAnd int int" =>
    (k_here; (with_reducible show wpAny _ _ (binaryOp Operator.BitAnd (Value.int (32768 + _) _) (Value.int _ _)) _ _ _); (first | ((with_reducible show wpAny _ _ (binaryOp Operator.BitAnd (Value.int _ _) (Value.int 61440 _)) _ _ _); with_reducible refine mR0 (by assumption) (by assumption) ?_) | with_reducible refine mRb (by assumption) (by assumption) (by assumption) (by assumption) ?_); k_whole)
  k_with "call builtin:list.append" =>
    (k_here; (with_reducible show wpAny _ _ (call (Value.builtin _) [Value.ref _, _]) _ _ _); k_dflt (refine' appendS ?k1Z9 ?k2Z9 ?k4Z9 ?k3Z9 ?_; (case k1Z9 => k_asm); (case k2Z9 => k_asm); (case k4Z9 => assumption); (case k3Z9 => k_upd); k_whole); intro h' F' N'; (try k_sweep))
  k_with "call builtin:str.join" =>
    (k_here; (with_reducible show wpAny _ _ (call (Value.builtin "str.join") [Value.str _ _, Value.ref _]) _ _ _); k_dflt (refine' join_fm ?k1Z9 ?k2Z9 ?k3Z9 ?_; (case k1Z9 => is_list); (case k2Z9 => rfl); (case k3Z9 => assumption); k_whole); intro _ _)
  trivial
example : PySem.Challenge.rw_op0025_01 = PySem.Challenge.rw_op0025_01 ∧ hd.heap_39 = hd.heap_39 := by k_fill; exact ⟨rfl, rfl⟩

theorem fm_ok (w : World) (n : Int) (t : Tok) (h0 : 0 ≤ n) (h1 : n < 512) :
    Claim w 105 3 [.int (32768 + n) t] [] (fun _ => True) (fun _ _ v => ∃ t, v = .str (fmText n) t) := by
  unfold Claim
  intro prog p loose mean mg mb dp un gd cn cs a' ccd cl outer A₀ base h₀ L m s Q E B0 F X T hk hpre hd hu hret
  refine wpAny_call ?_
  k_dflt (k_extra "cell_enter")
  k_steps
  refine Stop.go ?_
  intro I hI
  (try k_lt hI)
  refine items_enum (Gfm (Mine.hd.heap_39 w.params) n t _) (fun i9 m9 n9 g9 => ?_) (fun i9 v9 r9 m9 n9 g9 => ?_) _ _ _ _ ⟨_, _, [], [], fmRows, ?tabs, .nil, rfl, rfl, fm_map rfl rfl⟩
  case tabs => with_unfolding_all (k_extra "ktr_unf")
  · obtain ⟨m1, k1, us, xs, rs, hT, hS, hE, rfl, rfl⟩ := g9
    cases hT
    have hS' := hS
    rw [show xs = sigs n 0 fmRows from (List.append_nil xs).symm.trans hE] at hS'
    intro h9 tk9 F9 N9
    dsimp only
    k_steps
    exact hret _ _ _ (Fr.keep (by k_asm)) ⟨_, rfl⟩
  · obtain ⟨m1, k1, us, xs, rs, hT, hS, hE, rfl, rfl⟩ := g9
    cases hT with
    | cons hlk hcls hdat hps hrow hTr =>
      have hz8 := fm_room hS hE
      intro T9 t9 h9 tk9 hT9 F9
      ktu_objs
      k_steps
      refine Stop.go ?_
      refine else_ind (Hfm n t _ i9 t9 _ _) (fun m8 n8 g8 => ?_) (fun b8 t8 c8 u8 r8 m8 n8 hb8 g8 => ?_) _ _ _ _ hrow ⟨_, rfl, rfl, fm_map3 rfl rfl rfl⟩
      · obtain ⟨m7, rfl, hx, rfl⟩ := g8
        intro h7 tk7 F7 N7
        dsimp only
        k_steps
        all_goals exact ⟨[(_, _)], mem_one (by k_mem), gfm_next hTr hS hE rfl (by first | exact hx.trans (sig0_hit (by assumption) (by assumption)) | exact hx.trans (sig1_hit (by assumption) (by assumption)) | exact hx.trans (sig0_nil (by assumption)) | exact hx.trans (sig1_nil (by assumption))) rfl rfl rfl⟩
      · obtain ⟨m7, rfl, hx, rfl⟩ := g8
        intro it7 h7 tk7 F7 N7
        dsimp only
        k_steps
        all_goals first | exact ⟨[(_, _)], mem_one (by k_mem), gfm_next hTr hS hE rfl (by first | exact hx.trans (sig0_hit (by assumption) (by assumption)) | exact hx.trans (sig1_hit (by assumption) (by assumption)) | exact hx.trans (sig0_nil (by assumption)) | exact hx.trans (sig1_nil (by assumption))) rfl rfl rfl⟩ | exact ⟨_, rfl, (by first | exact hx.trans (sig0_miss (by assumption) (by assumption)) | exact hx.trans (sig1_miss (by assumption) (by assumption))), fm_map3 rfl rfl rfl⟩
end
section
example : True := by
  w_top off
  k_with_none
  k_with "cell_enter" =>
    (refine' callG_plain ?k1Z9 ?k2Z9 ?k3Z9 ?k5Z9 ?kAZ9 ?kFZ9 ?kKZ9 ?k6Z9 ?k7Z9 ?k8Z9 ?k9Z9 ?kBZ9 ?_ ?c2Z9 ?c3Z9 ?c4Z9 ?c5Z9; (case kAZ9 => exact rfl); (case kFZ9 => exact rfl); (case kKZ9 => assumption); (case k1Z9 => k_asm); (case k2Z9 => k_asm); (case k3Z9 => k_asm); (case k5Z9 => k_asm); (case k6Z9 => k_is); (case k7Z9 => k_is); (case k8Z9 => ktr_room); (case k9Z9 => first | exact BindsTo.of_eq rfl | exact binds_K (by k_in) rfl (by k_is) rfl rfl rfl); (case c5Z9 => decide); (case kBZ9 => exact locs rfl); (case c2Z9 => exact rfl); (case c3Z9 => exact rfl); (case c4Z9 => exact rfl); k_whole; intro L' h' F' N' B' X' T'; (try dsimp only); (try k_fold))
  k_with "ktr_enter" =>
    (refine' callG_cells ?k1Z9 ?k2Z9 ?k3Z9 ?k5Z9 ?kAZ9 ?kFZ9 ?kKZ9 ?k6Z9 ?k7Z9 ?k8Z9 ?k9Z9 ?kBZ9 ?kDZ9 ?_ ?c2Z9 ?c3Z9 ?c4Z9; (case kAZ9 => exact rfl); (case kFZ9 => exact rfl); (case kKZ9 => assumption); (case k1Z9 => k_asm); (case k2Z9 => k_asm); (case k3Z9 => k_asm); (case k5Z9 => k_asm); (case k6Z9 => k_is); (case k7Z9 => k_is); (case k8Z9 => ktr_room); (case k9Z9 => first | exact BindsTo.of_eq rfl | exact binds_K (by k_in) rfl (by k_is) rfl rfl rfl); (case kBZ9 => exact rfl); (case kDZ9 => decide +kernel); (case c2Z9 => exact rfl); (case c3Z9 => exact rfl); (case c4Z9 => exact rfl); k_whole; intro L' h' tk' cells' F' N' Y' B' X' T'; k_cells Y'; (try simp only [List.cons_append, List.nil_append] at N'); (try dsimp only); (with_reducible show wpAny _ _ _ _ _ _); (try k_fold))
  k_with "subscriptTail Name Name str int" =>
    (k_here; (with_reducible show wpAny _ _ (subscriptTail _ _ (Value.str _ _) (Value.int _ _)) _ _ _); k_dflt (refine' sgn_item ?k1Z9 ?k2Z9 ?_ ?k3Z9 ?k4Z9; (case k1Z9 => omega); (case k2Z9 => omega); (case k3Z9 => with_unfolding_all rfl); (case k4Z9 => intro _; with_unfolding_all rfl); k_whole))
  k_with "call builtin:str.join" =>
    (k_here; (with_reducible show wpAny _ _ (call (Value.builtin "str.join") [Value.str _ _, Value.ref _]) _ _ _); k_dflt (refine' join3 ?k1Z9 ?k2Z9 ?k3Z9 ?k4Z9 ?k5Z9 ?_; (case k1Z9 => is_list); (case k2Z9 => rfl); (case k3Z9 => exact Nat.le_of_ble_eq_true rfl); (case k4Z9 => exact Nat.le_of_ble_eq_true rfl); (case k5Z9 => exact Nat.le_of_ble_eq_true rfl); k_whole); intro _ _)
  k_with "subscriptTail Name Name ref int" =>
    (k_here; (with_reducible show wpAny _ _ (subscriptTail _ _ (Value.ref _) (Value.int _ _)) _ _ _); k_dflt (refine' oct_item ?k1Z9 ?k2Z9 ?k3Z9 ?_ ?k4Z9; (case k1Z9 => is_list); (case k2Z9 => omega); (case k3Z9 => omega); (case k4Z9 => with_unfolding_all rfl); k_whole); intro _)
  k_with "call builtin:str.index" =>
    (k_here; (with_reducible show wpAny _ _ (call (Value.builtin "str.index") [Value.str _ _, Value.str _ _]) _ _ _); k_dflt (refine' sgn_index (slice_txt ?k1Z9 ?k2Z9 ?k3Z9 ?k4Z9 ?k5Z9) ?k6Z9 ?k7Z9 ?_; (case k1Z9 => omega); (case k2Z9 => decide +kernel); (case k3Z9 => decide +kernel); (case k4Z9 => omega); (case k5Z9 => omega); (case k6Z9 => unfold fig; omega); (case k7Z9 => unfold fig; omega); k_whole))
  k_with "call builtin:list.index" =>
    (k_here; (with_reducible show wpAny _ _ (call (Value.builtin "list.index") [Value.ref _, Value.str _ _]) _ _ _); k_dflt (refine' oct_index ?k1Z9 (slice_oct ?k2Z9 ?k3Z9 ?k4Z9 ?k5Z9) ?k6Z9 ?k7Z9 ?_; (case k1Z9 => is_list); (case k2Z9 => decide +kernel); (case k3Z9 => decide +kernel); (case k4Z9 => omega); (case k5Z9 => omega); (case k6Z9 => unfold fig; omega); (case k7Z9 => unfold fig; omega); k_whole))
  k_with "call type:type" =>
    (k_here; (with_reducible show wpAny _ _ (call (Value.type "type") [Value.bytes _ _]) _ _ _); refine call_type_of (typeIs_bytes _ _ _) (by decide +kernel) ?_)
  k_with "pyIter bytes" =>
    ((with_reducible show wpAny _ _ (pyIter (Value.bytes _ _)) (fun it s₂ => LoopAtV _ _ _ _ _ _ _ _ _ it s₂) _ _); k_here; k_bytesUnr)
  k_with "binaryOp BitOr int int" =>
    (k_here; (with_reducible show wpAny _ _ (binaryOp Operator.BitOr (Value.int (_ * 2 ^ Int.toNat 8) _) (Value.int _ _)) _ _ _); k_dflt (refine' or_byteR ?k1Z9 ?k2Z9 ?_; (case k1Z9 => omega); (case k2Z9 => omega); k_whole))
  k_with "binaryOp BitAnd int int" =>
    (k_here; (first | ((with_reducible show wpAny _ _ (binaryOp Operator.BitAnd (Value.int _ _) (Value.int 65535 _)) _ _ _); k_dflt (refine' and16R ?_)) | ((with_reducible show wpAny _ _ (binaryOp Operator.BitAnd (Value.int _ _) (Value.int 63 _)) _ _ _); k_dflt (refine' and6R ?_))))
  k_with "subscriptTail Name BinOp bytes int" =>
    (k_here; (with_reducible show wpAny _ _ (subscriptTail _ _ (Value.bytes _ _) (Value.int (_ % 64) _)) _ _ _); k_dflt (refine' b64_item ?k1Z9 ?k2Z9 ?k3Z9 ?_ ?k4Z9 ?k5Z9; (case k1Z9 => decide +kernel); (case k2Z9 => exact Int.emod_nonneg _ (by decide)); (case k3Z9 => exact Int.emod_lt_of_pos _ (by decide)); (case k4Z9 => with_unfolding_all rfl); (case k5Z9 => intro _; with_unfolding_all rfl); k_whole); intro t' k' tl')
  k_with "call type:bytes" =>
    (k_here; (with_reducible show wpAny _ _ (call (Value.type "bytes") [Value.ref _]) _ _ _); k_dflt (first
      | (refine' bytes4 ?k1Z9 ?k2Z9 ?k3Z9 ?k4Z9 ?k5Z9 ?k6Z9 ?k7Z9 ?k8Z9 ?_; (case k1Z9 => k_asm); (case k2Z9 => k_asm); (case k3Z9 => rfl); (case k4Z9 => is_list); (case k5Z9 => omega); (case k6Z9 => omega); (case k7Z9 => omega); (case k8Z9 => omega); k_whole)
      | (refine' bytes3 ?k1Z9 ?k2Z9 ?k3Z9 ?k4Z9 ?k5Z9 ?k6Z9 ?k7Z9 ?_; (case k1Z9 => k_asm); (case k2Z9 => k_asm); (case k3Z9 => rfl); (case k4Z9 => is_list); (case k5Z9 => omega); (case k6Z9 => omega); (case k7Z9 => omega); k_whole)); intro h' t' k' arr' F' N' kbaI)
  k_with "exec For Tuple Call" =>
    (k_here; (with_reducible show wpAny _ _ (exec (Stmt.For (Expr.Tuple _ _ _) (Expr.Call (Expr.Name (Str.ofString "enumerate") _) _ _ _) _ _ _) _) _ _ _); (rename Fr _ _ _ _ => lF'); (with_unfolding_all refine' For_turns lF' ?_; k_whole))
  k_with "call type:enumerate" =>
    (k_here; (with_reducible show wpAny _ _ (call (Value.type _) [Value.ref _]) (fun xv s₁ => wpAny _ _ (pyIter xv) (fun it s₂ => TurnsAt _ _ _ _ _ _ _ _ _ it s₂) _ s₁) _ _); (with_unfolding_all refine' enum_stop ?hZ9 ?FZ9 ?NZ9 ?XZ9 ?kZ9 ?cZ9 ?dZ9 ?_; (case hZ9 => with_unfolding_all rfl); (case FZ9 => k_asm); (case NZ9 => k_asm); (case XZ9 => k_asm); (case kZ9 => k_is); (case cZ9 => exact rfl); (case dZ9 => exact rfl); k_whole))
  k_with "exec For Tuple Name" =>
    (k_here; (with_reducible show wpAny _ _ (exec (Stmt.For (Expr.Tuple [Expr.Name _ _, Expr.Name _ _] _ _) (Expr.Name _ _) _ (_ :: _) _) _) _ _ _); (rename Fr _ _ _ _ => lF'); (with_unfolding_all refine' For_else lF' ?hZ9 ?xiZ9 ?xcZ9 ?hpZ9 ?_ ?hsZ9 ?hEZ9; (case hZ9 => with_unfolding_all rfl); (case xiZ9 => with_unfolding_all rfl); (case xcZ9 => with_unfolding_all rfl); (case hpZ9 => with_unfolding_all rfl); (case hsZ9 => intro _; with_unfolding_all rfl); (case hEZ9 => passes_own); k_whole))
  k_with "ktr_unf" =>
    first | exact PairsIn.nil | (apply PairsIn.cons; k_is; exact rfl; exact rfl; (k_extra "ktr_unf"))
  k_with "ElseAt" =>
    (k_here; (with_unfolding_all refine' elseAt_K ?FZ9 ?NZ9 ?XZ9 ?kZ9 ?cZ9 ?dZ9 ?pZ9 ?_; (case FZ9 => k_asm); (case NZ9 => k_asm); (case XZ9 => k_asm); (case kZ9 => k_is); (case cZ9 => exact rfl); (case dZ9 => exact rfl); (case pZ9 => (k_extra "ktr_unf")); k_whole); intro i' l1; (try k_lt l1))
  k_with "ElseRest" =>
    (with_unfolding_all first | (refine ElseRest.succ (fun it' h' tk' F' N' => ?_)) | (refine ElseRest.zero (fun h' tk' F' N' => ?_)))
  k_with "UnrEnd" =>
    (refine unrEnd_head (by assumption) (by assumption) (by k_all) ?_)
  k_with "binaryOp BitAnd int int" =>
    (k_here; (with_reducible show wpAny _ _ (binaryOp Operator.BitAnd (Value.int (32768 + _) _) (Value.int _ _)) _ _ _); (first | ((with_reducible show wpAny _ _ (binaryOp Operator.BitAnd (Value.int _ _) (Value.int 61440 _)) _ _ _); with_reducible refine mR61440 (by assumption) (by assumption) ?_) | ((with_reducible show wpAny _ _ (binaryOp Operator.BitAnd (Value.int _ _) (Value.int 2112 _)) _ _ _); with_reducible refine mR2112 (by assumption) (by assumption) ?_) | ((with_reducible show wpAny _ _ (binaryOp Operator.BitAnd (Value.int _ _) (Value.int 1032 _)) _ _ _); with_reducible refine mR1032 (by assumption) (by assumption) ?_) | ((with_reducible show wpAny _ _ (binaryOp Operator.BitAnd (Value.int _ _) (Value.int 513 _)) _ _ _); with_reducible refine mR513 (by assumption) (by assumption) ?_) | ((with_reducible show wpAny _ _ (binaryOp Operator.BitAnd (Value.int _ _) (Value.int 2048 _)) _ _ _); with_reducible refine mR2048 (by assumption) (by assumption) ?_) | ((with_reducible show wpAny _ _ (binaryOp Operator.BitAnd (Value.int _ _) (Value.int 1024 _)) _ _ _); with_reducible refine mR1024 (by assumption) (by assumption) ?_) | ((with_reducible show wpAny _ _ (binaryOp Operator.BitAnd (Value.int _ _) (Value.int 512 _)) _ _ _); with_reducible refine mR512 (by assumption) (by assumption) ?_) | ((with_reducible show wpAny _ _ (binaryOp Operator.BitAnd (Value.int _ _) (Value.int 256 _)) _ _ _); with_reducible refine mR256 (by assumption) (by assumption) ?_) | ((with_reducible show wpAny _ _ (binaryOp Operator.BitAnd (Value.int _ _) (Value.int 128 _)) _ _ _); with_reducible refine mR128 (by assumption) (by assumption) ?_) | ((with_reducible show wpAny _ _ (binaryOp Operator.BitAnd (Value.int _ _) (Value.int 64 _)) _ _ _); with_reducible refine mR64 (by assumption) (by assumption) ?_) | ((with_reducible show wpAny _ _ (binaryOp Operator.BitAnd (Value.int _ _) (Value.int 32 _)) _ _ _); with_reducible refine mR32 (by assumption) (by assumption) ?_) | ((with_reducible show wpAny _ _ (binaryOp Operator.BitAnd (Value.int _ _) (Value.int 16 _)) _ _ _); with_reducible refine mR16 (by assumption) (by assumption) ?_) | ((with_reducible show wpAny _ _ (binaryOp Operator.BitAnd (Value.int _ _) (Value.int 8 _)) _ _ _); with_reducible refine mR8 (by assumption) (by assumption) ?_) | ((with_reducible show wpAny _ _ (binaryOp Operator.BitAnd (Value.int _ _) (Value.int 4 _)) _ _ _); with_reducible refine mR4 (by assumption) (by assumption) ?_) | ((with_reducible show wpAny _ _ (binaryOp Operator.BitAnd (Value.int _ _) (Value.int 2 _)) _ _ _); with_reducible refine mR2 (by assumption) (by assumption) ?_) | ((with_reducible show wpAny _ _ (binaryOp Operator.BitAnd (Value.int _ _) (Value.int 1 _)) _ _ _); with_reducible refine mR1 (by assumption) (by assumption) ?_)); k_whole)
  k_with "call builtin:str.join" =>
    (k_here; (with_reducible show wpAny _ _ (call (Value.builtin "str.join") [Value.str _ _, Value.ref _]) _ _ _); k_dflt (refine' join10 ?k1Z9 ?k2Z9 ?k3Z9 ?k4Z9 ?k5Z9 ?k6Z9 ?k7Z9 ?k8Z9 ?k9Z9 ?k10Z9 ?k11Z9 ?k12Z9 ?_; (case k1Z9 => is_list); (case k2Z9 => rfl); (case k3Z9 => exact fmc_len _ _); (case k4Z9 => exact fmc_len _ _); (case k5Z9 => exact fmc_len _ _); (case k6Z9 => exact fmc_len _ _); (case k7Z9 => exact fmc_len _ _); (case k8Z9 => exact fmc_len _ _); (case k9Z9 => exact fmc_len _ _); (case k10Z9 => exact fmc_len _ _); (case k11Z9 => exact fmc_len _ _); (case k12Z9 => exact fmc_len _ _); k_whole); intro _ _)
  k_with "call builtin:abs" =>
    (k_here; (with_reducible show wpAny _ _ (call (Value.builtin "abs") [Value.int _ _]) _ _ _); (with_reducible refine abs_nn (by omega) ?_); intro _ _)
  k_with "call builtin:divmod" =>
    (k_here; (with_reducible show wpAny _ _ (call (Value.builtin "divmod") [Value.int _ _, Value.int 16 _]) _ _ _); k_dflt (refine' divmod16 ?k1Z9 ?k2Z9 ?k3Z9 ?k4Z9 ?_; (case k1Z9 => k_asm); (case k2Z9 => k_asm); (case k3Z9 => omega); (case k4Z9 => omega); k_whole); intro d' h' x' y' F' N' l1; (try k_lt l1); (try k_sweep))
  k_with "exec While" =>
    (k_here; (with_reducible show wpAny _ _ (exec (Stmt.While (Expr.Name _ _) _ _ _) _) _ _ _); k_dflt (refine whl_start 100 ?_))
  k_with "WhlIf" =>
    (first | (refine WhlIf.no (bne_eq_false_iff_eq.mpr (by omega)) ?_) | (refine whlIf_int (fun h9 => ?_) (fun h9 => ?_)))
  k_with "subscriptTail" =>
    (k_here; (with_reducible show wpAny _ _ (subscriptTail _ (Expr.Slice (some _) (some _) none _) (Value.bytes _ _) (Value.ref _)) _ _ _); (with_reducible rename Fr _ _ _ _ => F'); (with_reducible rename News _ _ _ _ => N'); (refine ap_slice (s := ⟨_, _, _, _, _⟩) F' N' (by decide +kernel) (by constructor) (by constructor) (by omega) (by omega) ?_); intro _ _ _ _ _ _ kbcK)
  trivial
example : PySem.Challenge.rw_op0025_01 = PySem.Challenge.rw_op0025_01 ∧ hd.heap_39 = hd.heap_39 := by k_fill; exact ⟨rfl, rfl⟩



theorem ap_ok (w : World) (n : Int) (t : Tok) (h0 : 0 ≤ n) (h1 : n < 4096) :
    Claim w 58 1 [.int n t] [] (fun _ => True) (fun _ _ v => ∃ arr t, v = .bytes arr t ∧ KBw.bInts arr = apL n) := by
  unfold Claim
  intro prog p loose mean mg mb dp un gd cn cs a' ccd cl outer A₀ base h₀ L m s Q E B0 F X T hk hpre hd hu hret
  refine wpAny_call ?_
  k_dflt (k_extra "cell_enter")
  k_steps
  all_goals first
    | exact hret _ _ _ (Fr.keep (by k_asm)) ⟨_, _, rfl, apL0 (by assumption)⟩
    | ((rename KBw.bInts (_ ++ _) = _ => hb)
       first
       | exact hret _ _ _ (Fr.keep (by k_asm)) ⟨_, _, rfl, hb.trans (apL1 (by omega) (by omega))⟩
       | exact hret _ _ _ (Fr.keep (by k_asm)) ⟨_, _, rfl, hb.trans (apL2 (by omega) (by omega))⟩
       | exact hret _ _ _ (Fr.keep (by k_asm)) ⟨_, _, rfl, hb.trans (apL3 (by omega) (by omega))⟩)
end
section
example : True := by
  w_top off
  k_with_none
  k_with "cell_enter" =>
    (refine' callG_plain ?k1Z9 ?k2Z9 ?k3Z9 ?k5Z9 ?kAZ9 ?kFZ9 ?kKZ9 ?k6Z9 ?k7Z9 ?k8Z9 ?k9Z9 ?kBZ9 ?_ ?c2Z9 ?c3Z9 ?c4Z9 ?c5Z9; (case kAZ9 => exact rfl); (case kFZ9 => exact rfl); (case kKZ9 => assumption); (case k1Z9 => k_asm); (case k2Z9 => k_asm); (case k3Z9 => k_asm); (case k5Z9 => k_asm); (case k6Z9 => k_is); (case k7Z9 => k_is); (case k8Z9 => ktr_room); (case k9Z9 => first | exact BindsTo.of_eq rfl | exact binds_K (by k_in) rfl (by k_is) rfl rfl rfl); (case c5Z9 => decide); (case kBZ9 => exact locs rfl); (case c2Z9 => exact rfl); (case c3Z9 => exact rfl); (case c4Z9 => exact rfl); k_whole; intro L' h' F' N' B' X' T'; (try dsimp only); (try k_fold))
  k_with "ktr_enter" =>
    (refine' callG_cells ?k1Z9 ?k2Z9 ?k3Z9 ?k5Z9 ?kAZ9 ?kFZ9 ?kKZ9 ?k6Z9 ?k7Z9 ?k8Z9 ?k9Z9 ?kBZ9 ?kDZ9 ?_ ?c2Z9 ?c3Z9 ?c4Z9; (case kAZ9 => exact rfl); (case kFZ9 => exact rfl); (case kKZ9 => assumption); (case k1Z9 => k_asm); (case k2Z9 => k_asm); (case k3Z9 => k_asm); (case k5Z9 => k_asm); (case k6Z9 => k_is); (case k7Z9 => k_is); (case k8Z9 => ktr_room); (case k9Z9 => first | exact BindsTo.of_eq rfl | exact binds_K (by k_in) rfl (by k_is) rfl rfl rfl); (case kBZ9 => exact rfl); (case kDZ9 => decide +kernel); (case c2Z9 => exact rfl); (case c3Z9 => exact rfl); (case c4Z9 => exact rfl); k_whole; intro L' h' tk' cells' F' N' Y' B' X' T'; k_cells Y'; (try simp only [List.cons_append, List.nil_append] at N'); (try dsimp only); (with_reducible show wpAny _ _ _ _ _ _); (try k_fold))
  k_with "subscriptTail Name Name str int" =>
    (k_here; (with_reducible show wpAny _ _ (subscriptTail _ _ (Value.str _ _) (Value.int _ _)) _ _ _); k_dflt (refine' sgn_item ?k1Z9 ?k2Z9 ?_ ?k3Z9 ?k4Z9; (case k1Z9 => omega); (case k2Z9 => omega); (case k3Z9 => with_unfolding_all rfl); (case k4Z9 => intro _; with_unfolding_all rfl); k_whole))
  k_with "call builtin:str.join" =>
    (k_here; (with_reducible show wpAny _ _ (call (Value.builtin "str.join") [Value.str _ _, Value.ref _]) _ _ _); k_dflt (refine' join3 ?k1Z9 ?k2Z9 ?k3Z9 ?k4Z9 ?k5Z9 ?_; (case k1Z9 => is_list); (case k2Z9 => rfl); (case k3Z9 => exact Nat.le_of_ble_eq_true rfl); (case k4Z9 => exact Nat.le_of_ble_eq_true rfl); (case k5Z9 => exact Nat.le_of_ble_eq_true rfl); k_whole); intro _ _)
  k_with "subscriptTail Name Name ref int" =>
    (k_here; (with_reducible show wpAny _ _ (subscriptTail _ _ (Value.ref _) (Value.int _ _)) _ _ _); k_dflt (refine' oct_item ?k1Z9 ?k2Z9 ?k3Z9 ?_ ?k4Z9; (case k1Z9 => is_list); (case k2Z9 => omega); (case k3Z9 => omega); (case k4Z9 => with_unfolding_all rfl); k_whole); intro _)
  k_with "call builtin:str.index" =>
    (k_here; (with_reducible show wpAny _ _ (call (Value.builtin "str.index") [Value.str _ _, Value.str _ _]) _ _ _); k_dflt (refine' sgn_index (slice_txt ?k1Z9 ?k2Z9 ?k3Z9 ?k4Z9 ?k5Z9) ?k6Z9 ?k7Z9 ?_; (case k1Z9 => omega); (case k2Z9 => decide +kernel); (case k3Z9 => decide +kernel); (case k4Z9 => omega); (case k5Z9 => omega); (case k6Z9 => unfold fig; omega); (case k7Z9 => unfold fig; omega); k_whole))
  k_with "call builtin:list.index" =>
    (k_here; (with_reducible show wpAny _ _ (call (Value.builtin "list.index") [Value.ref _, Value.str _ _]) _ _ _); k_dflt (refine' oct_index ?k1Z9 (slice_oct ?k2Z9 ?k3Z9 ?k4Z9 ?k5Z9) ?k6Z9 ?k7Z9 ?_; (case k1Z9 => is_list); (case k2Z9 => decide +kernel); (case k3Z9 => decide +kernel); (case k4Z9 => omega); (case k5Z9 => omega); (case k6Z9 => unfold fig; omega); (case k7Z9 => unfold fig; omega); k_whole))
  k_with "call type:type" =>
    (k_here; (with_reducible show wpAny _ _ (call (Value.type "type") [Value.bytes _ _]) _ _ _); refine call_type_of (typeIs_bytes _ _ _) (by decide +kernel) ?_)
  k_with "pyIter bytes" =>
    ((with_reducible show wpAny _ _ (pyIter (Value.bytes _ _)) (fun it s₂ => LoopAtV _ _ _ _ _ _ _ _ _ it s₂) _ _); k_here; k_bytesUnr)
  k_with "binaryOp BitOr int int" =>
    (k_here; (with_reducible show wpAny _ _ (binaryOp Operator.BitOr (Value.int (_ * 2 ^ Int.toNat 8) _) (Value.int _ _)) _ _ _); k_dflt (refine' or_byteR ?k1Z9 ?k2Z9 ?_; (case k1Z9 => omega); (case k2Z9 => omega); k_whole))
  k_with "binaryOp BitAnd int int" =>
    (k_here; (first | ((with_reducible show wpAny _ _ (binaryOp Operator.BitAnd (Value.int _ _) (Value.int 65535 _)) _ _ _); k_dflt (refine' and16R ?_)) | ((with_reducible show wpAny _ _ (binaryOp Operator.BitAnd (Value.int _ _) (Value.int 63 _)) _ _ _); k_dflt (refine' and6R ?_))))
  k_with "subscriptTail Name BinOp bytes int" =>
    (k_here; (with_reducible show wpAny _ _ (subscriptTail _ _ (Value.bytes _ _) (Value.int (_ % 64) _)) _ _ _); k_dflt (refine' b64_item ?k1Z9 ?k2Z9 ?k3Z9 ?_ ?k4Z9 ?k5Z9; (case k1Z9 => decide +kernel); (case k2Z9 => exact Int.emod_nonneg _ (by decide)); (case k3Z9 => exact Int.emod_lt_of_pos _ (by decide)); (case k4Z9 => with_unfolding_all rfl); (case k5Z9 => intro _; with_unfolding_all rfl); k_whole); intro t' k' tl')
  k_with "call type:bytes" =>
    (k_here; (with_reducible show wpAny _ _ (call (Value.type "bytes") [Value.ref _]) _ _ _); k_dflt (first
      | (refine' bytes4 ?k1Z9 ?k2Z9 ?k3Z9 ?k4Z9 ?k5Z9 ?k6Z9 ?k7Z9 ?k8Z9 ?_; (case k1Z9 => k_asm); (case k2Z9 => k_asm); (case k3Z9 => rfl); (case k4Z9 => is_list); (case k5Z9 => omega); (case k6Z9 => omega); (case k7Z9 => omega); (case k8Z9 => omega); k_whole)
      | (refine' bytes3 ?k1Z9 ?k2Z9 ?k3Z9 ?k4Z9 ?k5Z9 ?k6Z9 ?k7Z9 ?_; (case k1Z9 => k_asm); (case k2Z9 => k_asm); (case k3Z9 => rfl); (case k4Z9 => is_list); (case k5Z9 => omega); (case k6Z9 => omega); (case k7Z9 => omega); k_whole)); intro h' t' k' arr' F' N' kbaI)
  k_with "exec For Tuple Call" =>
    (k_here; (with_reducible show wpAny _ _ (exec (Stmt.For (Expr.Tuple _ _ _) (Expr.Call (Expr.Name (Str.ofString "enumerate") _) _ _ _) _ _ _) _) _ _ _); (rename Fr _ _ _ _ => lF'); (with_unfolding_all refine' For_turns lF' ?_; k_whole))
  k_with "call type:enumerate" =>
    (k_here; (with_reducible show wpAny _ _ (call (Value.type _) [Value.ref _]) (fun xv s₁ => wpAny _ _ (pyIter xv) (fun it s₂ => TurnsAt _ _ _ _ _ _ _ _ _ it s₂) _ s₁) _ _); (with_unfolding_all refine' enum_stop ?hZ9 ?FZ9 ?NZ9 ?XZ9 ?kZ9 ?cZ9 ?dZ9 ?_; (case hZ9 => with_unfolding_all rfl); (case FZ9 => k_asm); (case NZ9 => k_asm); (case XZ9 => k_asm); (case kZ9 => k_is); (case cZ9 => exact rfl); (case dZ9 => exact rfl); k_whole))
  k_with "exec For Tuple Name" =>
    (k_here; (with_reducible show wpAny _ _ (exec (Stmt.For (Expr.Tuple [Expr.Name _ _, Expr.Name _ _] _ _) (Expr.Name _ _) _ (_ :: _) _) _) _ _ _); (rename Fr _ _ _ _ => lF'); (with_unfolding_all refine' For_else lF' ?hZ9 ?xiZ9 ?xcZ9 ?hpZ9 ?_ ?hsZ9 ?hEZ9; (case hZ9 => with_unfolding_all rfl); (case xiZ9 => with_unfolding_all rfl); (case xcZ9 => with_unfolding_all rfl); (case hpZ9 => with_unfolding_all rfl); (case hsZ9 => intro _; with_unfolding_all rfl); (case hEZ9 => passes_own); k_whole))
  k_with "ktr_unf" =>
    first | exact PairsIn.nil | (apply PairsIn.cons; k_is; exact rfl; exact rfl; (k_extra "ktr_unf"))
  k_with "ElseAt" =>
    (k_here; (with_unfolding_all refine' elseAt_K ?FZ9 ?NZ9 ?XZ9 ?kZ9 ?cZ9 ?dZ9 ?pZ9 ?_; (case FZ9 => k_asm); (case NZ9 => k_asm); (case XZ9 => k_asm); (case kZ9 => k_is); (case cZ9 => exact rfl); (case dZ9 => exact rfl); (case pZ9 => (k_extra "ktr_unf")); k_whole); intro i' l1; (try k_lt l1))
  k_with "ElseRest" =>
    (with_unfolding_all first | (refine ElseRest.succ (fun it' h' tk' F' N' => ?_)) | (refine ElseRest.zero (fun h' tk' F' N' => ?_)))
  k_with "UnrEnd" =>
    (refine unrEnd_head (by assumption) (by assumption) (by k_all) ?_)
  k_with "binaryOp BitAnd int int" =>
    (k_here; (with_reducible show wpAny _ _ (binaryOp Operator.BitAnd (Value.int (32768 + _) _) (Value.int _ _)) _ _ _); (first | ((with_reducible show wpAny _ _ (binaryOp Operator.BitAnd (Value.int _ _) (Value.int 61440 _)) _ _ _); with_reducible refine mR61440 (by assumption) (by assumption) ?_) | ((with_reducible show wpAny _ _ (binaryOp Operator.BitAnd (Value.int _ _) (Value.int 2112 _)) _ _ _); with_reducible refine mR2112 (by assumption) (by assumption) ?_) | ((with_reducible show wpAny _ _ (binaryOp Operator.BitAnd (Value.int _ _) (Value.int 1032 _)) _ _ _); with_reducible refine mR1032 (by assumption) (by assumption) ?_) | ((with_reducible show wpAny _ _ (binaryOp Operator.BitAnd (Value.int _ _) (Value.int 513 _)) _ _ _); with_reducible refine mR513 (by assumption) (by assumption) ?_) | ((with_reducible show wpAny _ _ (binaryOp Operator.BitAnd (Value.int _ _) (Value.int 2048 _)) _ _ _); with_reducible refine mR2048 (by assumption) (by assumption) ?_) | ((with_reducible show wpAny _ _ (binaryOp Operator.BitAnd (Value.int _ _) (Value.int 1024 _)) _ _ _); with_reducible refine mR1024 (by assumption) (by assumption) ?_) | ((with_reducible show wpAny _ _ (binaryOp Operator.BitAnd (Value.int _ _) (Value.int 512 _)) _ _ _); with_reducible refine mR512 (by assumption) (by assumption) ?_) | ((with_reducible show wpAny _ _ (binaryOp Operator.BitAnd (Value.int _ _) (Value.int 256 _)) _ _ _); with_reducible refine mR256 (by assumption) (by assumption) ?_) | ((with_reducible show wpAny _ _ (binaryOp Operator.BitAnd (Value.int _ _) (Value.int 128 _)) _ _ _); with_reducible refine mR128 (by assumption) (by assumption) ?_) | ((with_reducible show wpAny _ _ (binaryOp Operator.BitAnd (Value.int _ _) (Value.int 64 _)) _ _ _); with_reducible refine mR64 (by assumption) (by assumption) ?_) | ((with_reducible show wpAny _ _ (binaryOp Operator.BitAnd (Value.int _ _) (Value.int 32 _)) _ _ _); with_reducible refine mR32 (by assumption) (by assumption) ?_) | ((with_reducible show wpAny _ _ (binaryOp Operator.BitAnd (Value.int _ _) (Value.int 16 _)) _ _ _); with_reducible refine mR16 (by assumption) (by assumption) ?_) | ((with_reducible show wpAny _ _ (binaryOp Operator.BitAnd (Value.int _ _) (Value.int 8 _)) _ _ _); with_reducible refine mR8 (by assumption) (by assumption) ?_) | ((with_reducible show wpAny _ _ (binaryOp Operator.BitAnd (Value.int _ _) (Value.int 4 _)) _ _ _); with_reducible refine mR4 (by assumption) (by assumption) ?_) | ((with_reducible show wpAny _ _ (binaryOp Operator.BitAnd (Value.int _ _) (Value.int 2 _)) _ _ _); with_reducible refine mR2 (by assumption) (by assumption) ?_) | ((with_reducible show wpAny _ _ (binaryOp Operator.BitAnd (Value.int _ _) (Value.int 1 _)) _ _ _); with_reducible refine mR1 (by assumption) (by assumption) ?_)); k_whole)
  k_with "call builtin:str.join" =>
    (k_here; (with_reducible show wpAny _ _ (call (Value.builtin "str.join") [Value.str _ _, Value.ref _]) _ _ _); k_dflt (refine' join10 ?k1Z9 ?k2Z9 ?k3Z9 ?k4Z9 ?k5Z9 ?k6Z9 ?k7Z9 ?k8Z9 ?k9Z9 ?k10Z9 ?k11Z9 ?k12Z9 ?_; (case k1Z9 => is_list); (case k2Z9 => rfl); (case k3Z9 => exact fmc_len _ _); (case k4Z9 => exact fmc_len _ _); (case k5Z9 => exact fmc_len _ _); (case k6Z9 => exact fmc_len _ _); (case k7Z9 => exact fmc_len _ _); (case k8Z9 => exact fmc_len _ _); (case k9Z9 => exact fmc_len _ _); (case k10Z9 => exact fmc_len _ _); (case k11Z9 => exact fmc_len _ _); (case k12Z9 => exact fmc_len _ _); k_whole); intro _ _)
  k_with "call builtin:abs" =>
    (k_here; (with_reducible show wpAny _ _ (call (Value.builtin "abs") [Value.int _ _]) _ _ _); (with_reducible refine abs_nn (by omega) ?_); intro _ _)
  k_with "call builtin:divmod" =>
    (k_here; (with_reducible show wpAny _ _ (call (Value.builtin "divmod") [Value.int _ _, Value.int 16 _]) _ _ _); k_dflt (refine' divmod16 ?k1Z9 ?k2Z9 ?k3Z9 ?k4Z9 ?_; (case k1Z9 => k_asm); (case k2Z9 => k_asm); (case k3Z9 => omega); (case k4Z9 => omega); k_whole); intro d' h' x' y' F' N' l1; (try k_lt l1); (try k_sweep))
  k_with "exec While" =>
    (k_here; (with_reducible show wpAny _ _ (exec (Stmt.While (Expr.Name _ _) _ _ _) _) _ _ _); k_dflt (refine whl_start 100 ?_))
  k_with "WhlIf" =>
    (first | (refine WhlIf.yes (bne_iff_ne.mpr (by omega)) ?_) | (refine WhlIf.no (bne_eq_false_iff_eq.mpr (by omega)) ?_))
  k_with "subscriptTail" =>
    (k_here; (with_reducible show wpAny _ _ (subscriptTail _ (Expr.Slice (some _) (some _) none _) (Value.bytes _ _) (Value.ref _)) _ _ _); (with_reducible rename Fr _ _ _ _ => F'); (with_reducible rename News _ _ _ _ => N'); (refine ap_slice (s := ⟨_, _, _, _, _⟩) F' N' (by decide +kernel) (by constructor) (by constructor) (by omega) (by omega) ?_); intro _ _ _ _ _ _ kbcK)
  k_with "binaryOp FloorDiv int int" =>
    (k_here; (with_reducible show wpAny _ _ (binaryOp Operator.FloorDiv (Value.int _ _) (Value.int _ _)) _ _ _); with_reducible refine fdivR (by decide) (by decide) (by omega) (by omega) ?_)
  k_with "binaryOp Mod int int" =>
    (k_here; (with_reducible show wpAny _ _ (binaryOp Operator.Mod (Value.int _ _) (Value.int _ _)) _ _ _); with_reducible refine fmodR (by decide) ?_)
  k_with "eval ListComp" =>
    (k_here; (with_reducible show wpAny _ _ (eval (Expr.ListComp (Expr.Call (Expr.Name (Str.ofString "chr") _) _ _ _) _ _ _) _) _ _ _); k_dflt (refine ListComp_B (_F₀ := by k_asm) (by rfl) (by decide) (by rfl) (by decide) (by rfl) ?_ (by intro _; rfl)))
  k_with "SrcB" =>
    (k_here; k_dflt (refine SrcB.of (by rfl) (by k_asm) (by k_asm) (by assumption) (Nat.le_of_ble_eq_true rfl) ?_; intro g'))
  k_with "CompRest" =>
    (with_unfolding_all (refine LCg.CompRest.succ ?_; intro v' I' oI' C' oC' D' m' h' tk' E' hv' hC' hx' F' N' off' ne'; (obtain ⟨t9', c9', hc9', hv9', hl9', hu9'⟩ := hv'); (have hc8' := Option.some.inj hc9'); clear hc9'; subst hc8'; subst hv9'; (try simp only [LCg.Off3, and_true] at off')))
  k_with "call builtin:chr" =>
    (k_here; (with_reducible show wpAny _ _ (call (Value.builtin "chr") [Value.int _ _]) _ _ _); with_reducible refine chr_of_range (by omega) (by omega) ?_)
  k_with "call builtin:str.join" =>
    (k_here; (with_reducible show wpAny _ _ (call (Value.builtin "str.join") [Value.str _ _, Value.ref _]) _ _ _); k_dflt (first
      | (refine' join4 ?k1Z9 ?k2Z9 ?k3Z9 ?k4Z9 ?k5Z9 ?k6Z9 ?_; (case k1Z9 => is_list); (case k2Z9 => rfl); (case k3Z9 => exact Nat.le_of_ble_eq_true rfl); (case k4Z9 => exact Nat.le_of_ble_eq_true rfl); (case k5Z9 => exact Nat.le_of_ble_eq_true rfl); (case k6Z9 => exact Nat.le_of_ble_eq_true rfl); k_whole)
      | (refine' join3 ?k1Z9 ?k2Z9 ?k3Z9 ?k4Z9 ?k5Z9 ?_; (case k1Z9 => is_list); (case k2Z9 => rfl); (case k3Z9 => exact Nat.le_of_ble_eq_true rfl); (case k4Z9 => exact Nat.le_of_ble_eq_true rfl); (case k5Z9 => exact Nat.le_of_ble_eq_true rfl); k_whole)
      | (refine' join2 ?k1Z9 ?k2Z9 ?k3Z9 ?k4Z9 ?_; (case k1Z9 => is_list); (case k2Z9 => rfl); (case k3Z9 => exact Nat.le_of_ble_eq_true rfl); (case k4Z9 => exact Nat.le_of_ble_eq_true rfl); k_whole)
      | (refine' join1 ?k1Z9 ?k2Z9 ?k3Z9 ?_; (case k1Z9 => is_list); (case k2Z9 => rfl); (case k3Z9 => exact Nat.le_of_ble_eq_true rfl); k_whole)
      | (refine' join0 ?k1Z9 ?k2Z9 ?_; (case k1Z9 => is_list); (case k2Z9 => rfl); k_whole)); intro _ _)
  k_with "call ref" =>
    (k_here; (with_reducible show wpAny _ _ (call (Value.ref 51) [Value.bytes _ _]) _ _ _); (with_reducible rename KBw.bInts _ = _ => kbaI); k_dflt (refine' Claim.useB (b64_ok _ _ _ _ _ _ kbaI ?k1Z9 ?k2Z9 ?k3Z9 ?k4Z9 ?k5Z9 ?k6Z9) ?b1Z9 ?b2Z9 ?b3Z9 ?b4Z9 ?b5Z9 ?b6Z9 ?b7Z9 ?b8Z9 ?b9Z9 ?_; (case k1Z9 => omega); (case k2Z9 => omega); (case k3Z9 => omega); (case k4Z9 => omega); (case k5Z9 => omega); (case k6Z9 => omega); (case b1Z9 => k_asm); (case b2Z9 => k_asm); (case b3Z9 => k_asm); (case b4Z9 => k_asm); (case b5Z9 => k_asm); (case b6Z9 => first | exact rfl | assumption); (case b7Z9 => trivial); (case b8Z9 => ktr_room); (case b9Z9 => ktr_units); k_whole); clear kbaI; intro arr' t' h' tk' F' N' kbaI)
  trivial
example : PySem.Challenge.rw_op0025_01 = PySem.Challenge.rw_op0025_01 ∧ hd.heap_39 = hd.heap_39 := by k_fill; exact ⟨rfl, rfl⟩


theorem four_ok (w : World) (n : Int) (t : Tok) (h0 : 0 ≤ n) (h1 : n < 16777216) :
    Claim w 134 5 [.int n t] [] (fun _ => True) (fun _ _ v => ∃ t, v = .str (four n) t) := by
  unfold Claim
  intro prog p loose mean mg mb dp un gd cn cs a' ccd cl outer A₀ base h₀ L m s Q E B0 F X T hk hpre hd hu hret
  refine wpAny_call ?_
  k_dflt (k_extra "cell_enter")
  k_steps
  exact hret _ _ _ (Fr.keep (by k_asm)) ⟨_, four_end h0 h1⟩
end
section
example : True := by
  w_top off
  k_with_none
  k_with "cell_enter" =>
    (refine' callG_plain ?k1Z9 ?k2Z9 ?k3Z9 ?k5Z9 ?kAZ9 ?kFZ9 ?kKZ9 ?k6Z9 ?k7Z9 ?k8Z9 ?k9Z9 ?kBZ9 ?_ ?c2Z9 ?c3Z9 ?c4Z9 ?c5Z9; (case kAZ9 => exact rfl); (case kFZ9 => exact rfl); (case kKZ9 => assumption); (case k1Z9 => k_asm); (case k2Z9 => k_asm); (case k3Z9 => k_asm); (case k5Z9 => k_asm); (case k6Z9 => k_is); (case k7Z9 => k_is); (case k8Z9 => ktr_room); (case k9Z9 => first | exact BindsTo.of_eq rfl | exact binds_K (by k_in) rfl (by k_is) rfl rfl rfl); (case c5Z9 => decide); (case kBZ9 => exact locs rfl); (case c2Z9 => exact rfl); (case c3Z9 => exact rfl); (case c4Z9 => exact rfl); k_whole; intro L' h' F' N' B' X' T'; (try dsimp only); (try k_fold))
  k_with "ktr_enter" =>
    (refine' callG_cells ?k1Z9 ?k2Z9 ?k3Z9 ?k5Z9 ?kAZ9 ?kFZ9 ?kKZ9 ?k6Z9 ?k7Z9 ?k8Z9 ?k9Z9 ?kBZ9 ?kDZ9 ?_ ?c2Z9 ?c3Z9 ?c4Z9; (case kAZ9 => exact rfl); (case kFZ9 => exact rfl); (case kKZ9 => assumption); (case k1Z9 => k_asm); (case k2Z9 => k_asm); (case k3Z9 => k_asm); (case k5Z9 => k_asm); (case k6Z9 => k_is); (case k7Z9 => k_is); (case k8Z9 => ktr_room); (case k9Z9 => first | exact BindsTo.of_eq rfl | exact binds_K (by k_in) rfl (by k_is) rfl rfl rfl); (case kBZ9 => exact rfl); (case kDZ9 => decide +kernel); (case c2Z9 => exact rfl); (case c3Z9 => exact rfl); (case c4Z9 => exact rfl); k_whole; intro L' h' tk' cells' F' N' Y' B' X' T'; k_cells Y'; (try simp only [List.cons_append, List.nil_append] at N'); (try dsimp only); (with_reducible show wpAny _ _ _ _ _ _); (try k_fold))
  k_with "subscriptTail Name Name str int" =>
    (k_here; (with_reducible show wpAny _ _ (subscriptTail _ _ (Value.str _ _) (Value.int _ _)) _ _ _); k_dflt (refine' sgn_item ?k1Z9 ?k2Z9 ?_ ?k3Z9 ?k4Z9; (case k1Z9 => omega); (case k2Z9 => omega); (case k3Z9 => with_unfolding_all rfl); (case k4Z9 => intro _; with_unfolding_all rfl); k_whole))
  k_with "call builtin:str.join" =>
    (k_here; (with_reducible show wpAny _ _ (call (Value.builtin "str.join") [Value.str _ _, Value.ref _]) _ _ _); k_dflt (refine' join3 ?k1Z9 ?k2Z9 ?k3Z9 ?k4Z9 ?k5Z9 ?_; (case k1Z9 => is_list); (case k2Z9 => rfl); (case k3Z9 => exact Nat.le_of_ble_eq_true rfl); (case k4Z9 => exact Nat.le_of_ble_eq_true rfl); (case k5Z9 => exact Nat.le_of_ble_eq_true rfl); k_whole); intro _ _)
  k_with "subscriptTail Name Name ref int" =>
    (k_here; (with_reducible show wpAny _ _ (subscriptTail _ _ (Value.ref _) (Value.int _ _)) _ _ _); k_dflt (refine' oct_item ?k1Z9 ?k2Z9 ?k3Z9 ?_ ?k4Z9; (case k1Z9 => is_list); (case k2Z9 => omega); (case k3Z9 => omega); (case k4Z9 => with_unfolding_all rfl); k_whole); intro _)
  k_with "call builtin:str.index" =>
    (k_here; (with_reducible show wpAny _ _ (call (Value.builtin "str.index") [Value.str _ _, Value.str _ _]) _ _ _); k_dflt (refine' sgn_index (slice_txt ?k1Z9 ?k2Z9 ?k3Z9 ?k4Z9 ?k5Z9) ?k6Z9 ?k7Z9 ?_; (case k1Z9 => omega); (case k2Z9 => decide +kernel); (case k3Z9 => decide +kernel); (case k4Z9 => omega); (case k5Z9 => omega); (case k6Z9 => unfold fig; omega); (case k7Z9 => unfold fig; omega); k_whole))
  k_with "call builtin:list.index" =>
    (k_here; (with_reducible show wpAny _ _ (call (Value.builtin "list.index") [Value.ref _, Value.str _ _]) _ _ _); k_dflt (refine' oct_index ?k1Z9 (slice_oct ?k2Z9 ?k3Z9 ?k4Z9 ?k5Z9) ?k6Z9 ?k7Z9 ?_; (case k1Z9 => is_list); (case k2Z9 => decide +kernel); (case k3Z9 => decide +kernel); (case k4Z9 => omega); (case k5Z9 => omega); (case k6Z9 => unfold fig; omega); (case k7Z9 => unfold fig; omega); k_whole))
  k_with "call type:type" =>
    (k_here; (with_reducible show wpAny _ _ (call (Value.type "type") [Value.bytes _ _]) _ _ _); refine call_type_of (typeIs_bytes _ _ _) (by decide +kernel) ?_)
  k_with "pyIter bytes" =>
    ((with_reducible show wpAny _ _ (pyIter (Value.bytes _ _)) (fun it s₂ => LoopAtV _ _ _ _ _ _ _ _ _ it s₂) _ _); k_here; k_bytesUnr)
  k_with "binaryOp BitOr int int" =>
    (k_here; (with_reducible show wpAny _ _ (binaryOp Operator.BitOr (Value.int (_ * 2 ^ Int.toNat 8) _) (Value.int _ _)) _ _ _); k_dflt (refine' or_byteR ?k1Z9 ?k2Z9 ?_; (case k1Z9 => omega); (case k2Z9 => omega); k_whole))
  k_with "binaryOp BitAnd int int" =>
    (k_here; (first | ((with_reducible show wpAny _ _ (binaryOp Operator.BitAnd (Value.int _ _) (Value.int 65535 _)) _ _ _); k_dflt (refine' and16R ?_)) | ((with_reducible show wpAny _ _ (binaryOp Operator.BitAnd (Value.int _ _) (Value.int 63 _)) _ _ _); k_dflt (refine' and6R ?_))))
  k_with "subscriptTail Name BinOp bytes int" =>
    (k_here; (with_reducible show wpAny _ _ (subscriptTail _ _ (Value.bytes _ _) (Value.int (_ % 64) _)) _ _ _); k_dflt (refine' b64_item ?k1Z9 ?k2Z9 ?k3Z9 ?_ ?k4Z9 ?k5Z9; (case k1Z9 => decide +kernel); (case k2Z9 => exact Int.emod_nonneg _ (by decide)); (case k3Z9 => exact Int.emod_lt_of_pos _ (by decide)); (case k4Z9 => with_unfolding_all rfl); (case k5Z9 => intro _; with_unfolding_all rfl); k_whole); intro t' k' tl')
  k_with "call type:bytes" =>
    (k_here; (with_reducible show wpAny _ _ (call (Value.type "bytes") [Value.ref _]) _ _ _); k_dflt (first
      | (refine' bytes4 ?k1Z9 ?k2Z9 ?k3Z9 ?k4Z9 ?k5Z9 ?k6Z9 ?k7Z9 ?k8Z9 ?_; (case k1Z9 => k_asm); (case k2Z9 => k_asm); (case k3Z9 => rfl); (case k4Z9 => is_list); (case k5Z9 => omega); (case k6Z9 => omega); (case k7Z9 => omega); (case k8Z9 => omega); k_whole)
      | (refine' bytes3 ?k1Z9 ?k2Z9 ?k3Z9 ?k4Z9 ?k5Z9 ?k6Z9 ?k7Z9 ?_; (case k1Z9 => k_asm); (case k2Z9 => k_asm); (case k3Z9 => rfl); (case k4Z9 => is_list); (case k5Z9 => omega); (case k6Z9 => omega); (case k7Z9 => omega); k_whole)); intro h' t' k' arr' F' N' kbaI)
  k_with "exec For Tuple Call" =>
    (k_here; (with_reducible show wpAny _ _ (exec (Stmt.For (Expr.Tuple _ _ _) (Expr.Call (Expr.Name (Str.ofString "enumerate") _) _ _ _) _ _ _) _) _ _ _); (rename Fr _ _ _ _ => lF'); (with_unfolding_all refine' For_turns lF' ?_; k_whole))
  k_with "call type:enumerate" =>
    (k_here; (with_reducible show wpAny _ _ (call (Value.type _) [Value.ref _]) (fun xv s₁ => wpAny _ _ (pyIter xv) (fun it s₂ => TurnsAt _ _ _ _ _ _ _ _ _ it s₂) _ s₁) _ _); (with_unfolding_all refine' enum_stop ?hZ9 ?FZ9 ?NZ9 ?XZ9 ?kZ9 ?cZ9 ?dZ9 ?_; (case hZ9 => with_unfolding_all rfl); (case FZ9 => k_asm); (case NZ9 => k_asm); (case XZ9 => k_asm); (case kZ9 => k_is); (case cZ9 => exact rfl); (case dZ9 => exact rfl); k_whole))
  k_with "exec For Tuple Name" =>
    (k_here; (with_reducible show wpAny _ _ (exec (Stmt.For (Expr.Tuple [Expr.Name _ _, Expr.Name _ _] _ _) (Expr.Name _ _) _ (_ :: _) _) _) _ _ _); (rename Fr _ _ _ _ => lF'); (with_unfolding_all refine' For_else lF' ?hZ9 ?xiZ9 ?xcZ9 ?hpZ9 ?_ ?hsZ9 ?hEZ9; (case hZ9 => with_unfolding_all rfl); (case xiZ9 => with_unfolding_all rfl); (case xcZ9 => with_unfolding_all rfl); (case hpZ9 => with_unfolding_all rfl); (case hsZ9 => intro _; with_unfolding_all rfl); (case hEZ9 => passes_own); k_whole))
  k_with "ktr_unf" =>
    first | exact PairsIn.nil | (apply PairsIn.cons; k_is; exact rfl; exact rfl; (k_extra "ktr_unf"))
  k_with "ElseAt" =>
    (k_here; (with_unfolding_all refine' elseAt_K ?FZ9 ?NZ9 ?XZ9 ?kZ9 ?cZ9 ?dZ9 ?pZ9 ?_; (case FZ9 => k_asm); (case NZ9 => k_asm); (case XZ9 => k_asm); (case kZ9 => k_is); (case cZ9 => exact rfl); (case dZ9 => exact rfl); (case pZ9 => (k_extra "ktr_unf")); k_whole); intro i' l1; (try k_lt l1))
  k_with "ElseRest" =>
    (with_unfolding_all first | (refine ElseRest.succ (fun it' h' tk' F' N' => ?_)) | (refine ElseRest.zero (fun h' tk' F' N' => ?_)))
  k_with "UnrEnd" =>
    (refine unrEnd_head (by assumption) (by assumption) (by k_all) ?_)
  k_with "binaryOp BitAnd int int" =>
    (k_here; (with_reducible show wpAny _ _ (binaryOp Operator.BitAnd (Value.int (32768 + _) _) (Value.int _ _)) _ _ _); (first | ((with_reducible show wpAny _ _ (binaryOp Operator.BitAnd (Value.int _ _) (Value.int 61440 _)) _ _ _); with_reducible refine mR61440 (by assumption) (by assumption) ?_) | ((with_reducible show wpAny _ _ (binaryOp Operator.BitAnd (Value.int _ _) (Value.int 2112 _)) _ _ _); with_reducible refine mR2112 (by assumption) (by assumption) ?_) | ((with_reducible show wpAny _ _ (binaryOp Operator.BitAnd (Value.int _ _) (Value.int 1032 _)) _ _ _); with_reducible refine mR1032 (by assumption) (by assumption) ?_) | ((with_reducible show wpAny _ _ (binaryOp Operator.BitAnd (Value.int _ _) (Value.int 513 _)) _ _ _); with_reducible refine mR513 (by assumption) (by assumption) ?_) | ((with_reducible show wpAny _ _ (binaryOp Operator.BitAnd (Value.int _ _) (Value.int 2048 _)) _ _ _); with_reducible refine mR2048 (by assumption) (by assumption) ?_) | ((with_reducible show wpAny _ _ (binaryOp Operator.BitAnd (Value.int _ _) (Value.int 1024 _)) _ _ _); with_reducible refine mR1024 (by assumption) (by assumption) ?_) | ((with_reducible show wpAny _ _ (binaryOp Operator.BitAnd (Value.int _ _) (Value.int 512 _)) _ _ _); with_reducible refine mR512 (by assumption) (by assumption) ?_) | ((with_reducible show wpAny _ _ (binaryOp Operator.BitAnd (Value.int _ _) (Value.int 256 _)) _ _ _); with_reducible refine mR256 (by assumption) (by assumption) ?_) | ((with_reducible show wpAny _ _ (binaryOp Operator.BitAnd (Value.int _ _) (Value.int 128 _)) _ _ _); with_reducible refine mR128 (by assumption) (by assumption) ?_) | ((with_reducible show wpAny _ _ (binaryOp Operator.BitAnd (Value.int _ _) (Value.int 64 _)) _ _ _); with_reducible refine mR64 (by assumption) (by assumption) ?_) | ((with_reducible show wpAny _ _ (binaryOp Operator.BitAnd (Value.int _ _) (Value.int 32 _)) _ _ _); with_reducible refine mR32 (by assumption) (by assumption) ?_) | ((with_reducible show wpAny _ _ (binaryOp Operator.BitAnd (Value.int _ _) (Value.int 16 _)) _ _ _); with_reducible refine mR16 (by assumption) (by assumption) ?_) | ((with_reducible show wpAny _ _ (binaryOp Operator.BitAnd (Value.int _ _) (Value.int 8 _)) _ _ _); with_reducible refine mR8 (by assumption) (by assumption) ?_) | ((with_reducible show wpAny _ _ (binaryOp Operator.BitAnd (Value.int _ _) (Value.int 4 _)) _ _ _); with_reducible refine mR4 (by assumption) (by assumption) ?_) | ((with_reducible show wpAny _ _ (binaryOp Operator.BitAnd (Value.int _ _) (Value.int 2 _)) _ _ _); with_reducible refine mR2 (by assumption) (by assumption) ?_) | ((with_reducible show wpAny _ _ (binaryOp Operator.BitAnd (Value.int _ _) (Value.int 1 _)) _ _ _); with_reducible refine mR1 (by assumption) (by assumption) ?_)); k_whole)
  k_with "call builtin:str.join" =>
    (k_here; (with_reducible show wpAny _ _ (call (Value.builtin "str.join") [Value.str _ _, Value.ref _]) _ _ _); k_dflt (refine' join10 ?k1Z9 ?k2Z9 ?k3Z9 ?k4Z9 ?k5Z9 ?k6Z9 ?k7Z9 ?k8Z9 ?k9Z9 ?k10Z9 ?k11Z9 ?k12Z9 ?_; (case k1Z9 => is_list); (case k2Z9 => rfl); (case k3Z9 => exact fmc_len _ _); (case k4Z9 => exact fmc_len _ _); (case k5Z9 => exact fmc_len _ _); (case k6Z9 => exact fmc_len _ _); (case k7Z9 => exact fmc_len _ _); (case k8Z9 => exact fmc_len _ _); (case k9Z9 => exact fmc_len _ _); (case k10Z9 => exact fmc_len _ _); (case k11Z9 => exact fmc_len _ _); (case k12Z9 => exact fmc_len _ _); k_whole); intro _ _)
  k_with "call builtin:abs" =>
    (k_here; (with_reducible show wpAny _ _ (call (Value.builtin "abs") [Value.int _ _]) _ _ _); (with_reducible refine abs_nn (by omega) ?_); intro _ _)
  k_with "call builtin:divmod" =>
    (k_here; (with_reducible show wpAny _ _ (call (Value.builtin "divmod") [Value.int _ _, Value.int 16 _]) _ _ _); k_dflt (refine' divmod16 ?k1Z9 ?k2Z9 ?k3Z9 ?k4Z9 ?_; (case k1Z9 => k_asm); (case k2Z9 => k_asm); (case k3Z9 => omega); (case k4Z9 => omega); k_whole); intro d' h' x' y' F' N' l1; (try k_lt l1); (try k_sweep))
  k_with "exec While" =>
    (k_here; (with_reducible show wpAny _ _ (exec (Stmt.While (Expr.Name _ _) _ _ _) _) _ _ _); k_dflt (refine whl_start 100 ?_))
  k_with "WhlIf" =>
    (first | (refine WhlIf.yes (bne_iff_ne.mpr (by omega)) ?_) | (refine WhlIf.no (bne_eq_false_iff_eq.mpr (by omega)) ?_))
  k_with "subscriptTail" =>
    (k_here; (with_reducible show wpAny _ _ (subscriptTail _ (Expr.Slice (some _) (some _) none _) (Value.bytes _ _) (Value.ref _)) _ _ _); (with_reducible rename Fr _ _ _ _ => F'); (with_reducible rename News _ _ _ _ => N'); (refine ap_slice (s := ⟨_, _, _, _, _⟩) F' N' (by decide +kernel) (by constructor) (by constructor) (by omega) (by omega) ?_); intro _ _ _ _ _ _ kbcK)
  k_with "binaryOp FloorDiv int int" =>
    (k_here; (with_reducible show wpAny _ _ (binaryOp Operator.FloorDiv (Value.int _ _) (Value.int _ _)) _ _ _); with_reducible refine fdivR (by decide) (by decide) (by omega) (by omega) ?_)
  k_with "binaryOp Mod int int" =>
    (k_here; (with_reducible show wpAny _ _ (binaryOp Operator.Mod (Value.int _ _) (Value.int _ _)) _ _ _); with_reducible refine fmodR (by decide) ?_)
  k_with "eval ListComp" =>
    (k_here; (with_reducible show wpAny _ _ (eval (Expr.ListComp (Expr.Call (Expr.Name (Str.ofString "chr") _) _ _ _) _ _ _) _) _ _ _); k_dflt (refine ListComp_B (_F₀ := by k_asm) (by rfl) (by decide) (by rfl) (by decide) (by rfl) ?_ (by intro _; rfl)))
  k_with "SrcB" =>
    (k_here; k_dflt (refine SrcB.of (by rfl) (by k_asm) (by k_asm) (by assumption) (Nat.le_of_ble_eq_true rfl) ?_; intro g'))
  k_with "CompRest" =>
    (with_unfolding_all (refine LCg.CompRest.succ ?_; intro v' I' oI' C' oC' D' m' h' tk' E' hv' hC' hx' F' N' off' ne'; (obtain ⟨t9', c9', hc9', hv9', hl9', hu9'⟩ := hv'); (have hc8' := Option.some.inj hc9'); clear hc9'; subst hc8'; subst hv9'; (try simp only [LCg.Off3, and_true] at off')))
  k_with "call builtin:chr" =>
    (k_here; (with_reducible show wpAny _ _ (call (Value.builtin "chr") [Value.int _ _]) _ _ _); with_reducible refine chr_of_range (by omega) (by omega) ?_)
  k_with "call builtin:str.join" =>
    (k_here; (with_reducible show wpAny _ _ (call (Value.builtin "str.join") [Value.str _ _, Value.ref _]) _ _ _); k_dflt (first
      | (refine' join4 ?k1Z9 ?k2Z9 ?k3Z9 ?k4Z9 ?k5Z9 ?k6Z9 ?_; (case k1Z9 => is_list); (case k2Z9 => rfl); (case k3Z9 => exact Nat.le_of_ble_eq_true rfl); (case k4Z9 => exact Nat.le_of_ble_eq_true rfl); (case k5Z9 => exact Nat.le_of_ble_eq_true rfl); (case k6Z9 => exact Nat.le_of_ble_eq_true rfl); k_whole)
      | (refine' join3 ?k1Z9 ?k2Z9 ?k3Z9 ?k4Z9 ?k5Z9 ?_; (case k1Z9 => is_list); (case k2Z9 => rfl); (case k3Z9 => exact Nat.le_of_ble_eq_true rfl); (case k4Z9 => exact Nat.le_of_ble_eq_true rfl); (case k5Z9 => exact Nat.le_of_ble_eq_true rfl); k_whole)
      | (refine' join2 ?k1Z9 ?k2Z9 ?k3Z9 ?k4Z9 ?_; (case k1Z9 => is_list); (case k2Z9 => rfl); (case k3Z9 => exact Nat.le_of_ble_eq_true rfl); (case k4Z9 => exact Nat.le_of_ble_eq_true rfl); k_whole)
      | (refine' join1 ?k1Z9 ?k2Z9 ?k3Z9 ?_; (case k1Z9 => is_list); (case k2Z9 => rfl); (case k3Z9 => exact Nat.le_of_ble_eq_true rfl); k_whole)
      | (refine' join0 ?k1Z9 ?k2Z9 ?_; (case k1Z9 => is_list); (case k2Z9 => rfl); k_whole)); intro _ _)
  k_with "call builtin:len" =>
    (k_here; (first
      | ((with_reducible show wpAny _ _ (call (Value.builtin "len") [Value.str (Txt.join _ [_]) _]) _ _ _); k_dflt (refine len_j 1 rfl (by decide) ?_))
      | ((with_reducible show wpAny _ _ (call (Value.builtin "len") [Value.str (Txt.join _ [_, _]) _]) _ _ _); k_dflt (refine len_j 2 rfl (by decide) ?_))
      | ((with_reducible show wpAny _ _ (call (Value.builtin "len") [Value.str (Txt.join _ [_, _, _]) _]) _ _ _); k_dflt (refine len_j 3 rfl (by decide) ?_))))
  k_with "call ref" =>
    (k_here; (with_reducible show wpAny _ _ (call (Value.ref 58) [Value.int _ _]) _ _ _); k_dflt (refine' Claim.useB (ap_ok _ _ _ ?k1Z9 ?k2Z9) ?b1Z9 ?b2Z9 ?b3Z9 ?b4Z9 ?b5Z9 ?b6Z9 ?b7Z9 ?b8Z9 ?b9Z9 ?_; (case k1Z9 => omega); (case k2Z9 => omega); (case b1Z9 => k_asm); (case b2Z9 => k_asm); (case b3Z9 => k_asm); (case b4Z9 => k_asm); (case b5Z9 => k_asm); (case b6Z9 => first | exact rfl | assumption); (case b7Z9 => trivial); (case b8Z9 => ktr_room); (case b9Z9 => ktr_units); k_whole); intro arr' t' h' tk' F' N' kbaI; (first | rw [apE0 (by omega)] at kbaI | rw [apE1 (by omega) (by omega)] at kbaI | rw [apE2 (by omega) (by omega)] at kbaI | rw [apE3 (by omega) (by omega)] at kbaI))
  k_with "call ref" =>
    (k_here; (with_reducible show wpAny _ _ (call (Value.ref 105) [Value.int _ _]) _ _ _); k_dflt (refine' Claim.useS (fm_ok _ _ _ ?k1Z9 ?k2Z9) ?b1Z9 ?b2Z9 ?b3Z9 ?b4Z9 ?b5Z9 ?b6Z9 ?b7Z9 ?b8Z9 ?b9Z9 ?_; (case k1Z9 => omega); (case k2Z9 => omega); (case b1Z9 => k_asm); (case b2Z9 => k_asm); (case b3Z9 => k_asm); (case b4Z9 => k_asm); (case b5Z9 => k_asm); (case b6Z9 => first | exact rfl | assumption); (case b7Z9 => trivial); (case b8Z9 => ktr_room); (case b9Z9 => ktr_units); k_whole); intro t' h' tk' F' N')
  k_with "call ref" =>
    (k_here; (with_reducible show wpAny _ _ (call (Value.ref 134) [Value.int _ _]) _ _ _); k_dflt (refine' Claim.useS (four_ok _ _ _ ?k1Z9 ?k2Z9) ?b1Z9 ?b2Z9 ?b3Z9 ?b4Z9 ?b5Z9 ?b6Z9 ?b7Z9 ?b8Z9 ?b9Z9 ?_; (case k1Z9 => omega); (case k2Z9 => omega); (case b1Z9 => k_asm); (case b2Z9 => k_asm); (case b3Z9 => k_asm); (case b4Z9 => k_asm); (case b5Z9 => k_asm); (case b6Z9 => first | exact rfl | assumption); (case b7Z9 => trivial); (case b8Z9 => ktr_room); (case b9Z9 => ktr_units); k_whole); intro t' h' tk' F' N')
  trivial
example : PySem.Challenge.rw_op0025_01 = PySem.Challenge.rw_op0025_01 ∧ hd.heap_39 = hd.heap_39 := by k_fill; exact ⟨rfl, rfl⟩


theorem made8_ok (w : World) (n : Int) (tB t : Tok) (h0 : 0 ≤ n) (h1 : n < 512) :
    Claim w 139 6 [.int 8 tB, .int n t] [] (fun _ => True) (fun _ _ v => ∃ t, v = .str (txt 8 (n / 64) (n / 8 % 8) (n % 8)) t) := by
  unfold Claim
  intro prog p loose mean mg mb dp un gd cn cs a' ccd cl outer A₀ base h₀ L m s Q E B0 F X T hk hpre hd hu hret
  refine wpAny_call ?_
  k_dflt (k_extra "cell_enter")
  k_steps
  rw [fm_txt h0 h1]
  exact hret _ _ _ (Fr.keep (by k_asm)) ⟨_, rfl⟩
theorem made64_ok (w : World) (n : Int) (tB t : Tok) (h0 : 0 ≤ n) (h1 : n < 262144) :
    Claim w 139 6 [.int 64 tB, .int n t] [] (fun _ => True) (fun _ _ v => ∃ t, v = .str (txt 64 (n / 4096) (n / 64 % 64) (n % 64)) t) := by
  unfold Claim
  intro prog p loose mean mg mb dp un gd cn cs a' ccd cl outer A₀ base h₀ L m s Q E B0 F X T hk hpre hd hu hret
  refine wpAny_call ?_
  k_dflt (k_extra "cell_enter")
  k_steps
  rw [four_txt h0 h1]
  exact hret _ _ _ (Fr.keep (by k_asm)) ⟨_, rfl⟩
theorem made16_ok (w : World) (n : Int) (tB t : Tok) (h0 : 0 ≤ n) (h1 : n < 4096) :
    Claim w 139 6 [.int 16 tB, .int n t] [] (fun _ => True) (fun _ _ v => ∃ t, v = .str (txt 16 (n / 256) (n / 16 % 16) (n % 16)) t) := by
  unfold Claim
  intro prog p loose mean mg mb dp un gd cn cs a' ccd cl outer A₀ base h₀ L m s Q E B0 F X T hk hpre hd hu hret
  have hn : n = 0 ∨ (1 ≤ n ∧ n < 16) ∨ (16 ≤ n ∧ n < 256) ∨ (256 ≤ n ∧ n < 4096) := by omega
  rw [← ap_txt h0 h1] at hret
  rcases hn with hn | ⟨hn, hn'⟩ | ⟨hn, hn'⟩ | ⟨hn, hn'⟩
  all_goals (
    refine wpAny_call ?_
    k_dflt (k_extra "cell_enter")
    k_steps
    refine hret _ _ _ (Fr.keep (by k_asm)) ⟨_, congrArg (fun x => Value.str x _) ?_⟩
    first | (subst hn; rfl) | (rw [show n / 16 / 16 % 16 = 0 by omega, show n / 16 % 16 = 0 by omega]; rfl) | (rw [show n / 16 / 16 % 16 = 0 by omega]; rfl) | rfl)
end
section
example : True := by
  w_top off
  trivial
theorem Claim.post_eq {w : World} {f : Addr} {d : Nat} {vs : List Value} {kw : List (Str × Value)} {pre : Heap → Prop} {x y : Str} (e : x = y) (C : Claim w f d vs kw pre (fun _ _ v => ∃ t, v = .str x t)) : Claim w f d vs kw pre (fun _ _ v => ∃ t, v = .str y t) := e ▸ C
theorem dig {B x c : Int} (hB : 0 < B) (hc : 0 ≤ c ∧ c < B) : (x * B + c) / B = x ∧ (x * B + c) % B = c := by
  constructor
  · rw [Int.add_comm, Int.add_mul_ediv_right _ _ (Int.ne_of_gt hB), Int.ediv_eq_zero_of_lt hc.1 hc.2, Int.zero_add]
  · rw [Int.add_comm, Int.add_mul_emod_self_right, Int.emod_eq_of_lt hc.1 hc.2]
theorem dig3 {B B2 a b c : Int} (hB : 0 < B) (h2 : B * B = B2) (hb : 0 ≤ b ∧ b < B) (hc : 0 ≤ c ∧ c < B) : ((a * B + b) * B + c) / B2 = a ∧ ((a * B + b) * B + c) / B % B = b ∧ ((a * B + b) * B + c) % B = c := by
  subst h2
  rw [← Int.ediv_ediv_of_nonneg (Int.le_of_lt hB), (dig hB hc).1, (dig hB hc).2, (dig hB hb).1, (dig hB hb).2]
  exact ⟨rfl, rfl, rfl⟩
/-- the text of the number that three figures make -/
theorem num_ok (w : World) (B a b c : Int) (tB t : Tok) (hB : B = 8 ∨ B = 16 ∨ B = 64) (ha : 0 ≤ a ∧ a < B) (hb : 0 ≤ b ∧ b < B) (hc : 0 ≤ c ∧ c < B) :
    Claim w 139 6 [.int B tB, .int ((a * B + b) * B + c) t] [] (fun _ => True) (fun _ _ v => ∃ t, v = .str (txt B a b c) t) := by
  rcases hB with rfl | rfl | rfl
  · have h := dig3 (B := 8) (B2 := 64) (a := a) (by decide) rfl hb hc
    have m := made8_ok w ((a * 8 + b) * 8 + c) tB t (by omega) (by omega)
    rw [h.1, h.2.1, h.2.2] at m
    exact m
  · have h := dig3 (B := 16) (B2 := 256) (a := a) (by decide) rfl hb hc
    have m := made16_ok w ((a * 16 + b) * 16 + c) tB t (by omega) (by omega)
    rw [h.1, h.2.1, h.2.2] at m
    exact m
  · have h := dig3 (B := 64) (B2 := 4096) (a := a) (by decide) rfl hb hc
    have m := made64_ok w ((a * 64 + b) * 64 + c) tB t (by omega) (by omega)
    rw [h.1, h.2.1, h.2.2] at m
    exact m
theorem four_num {n a b c : Int} (e : n = (a * 64 + b) * 64 + c) (ha : 0 ≤ a ∧ a < 64) (hb : 0 ≤ b ∧ b < 64) (hc : 0 ≤ c ∧ c < 64) : four n = txt 64 a b c := by
  subst e
  have h := dig3 (B := 64) (B2 := 4096) (a := a) (by decide) rfl hb hc
  have m := four_txt (n := (a * 64 + b) * 64 + c) (by omega) (by omega)
  rw [h.1, h.2.1, h.2.2] at m
  exact m
/-- the text of a deed's number -/
theorem dif_is {B p q r : Int} (hB : B = 8 ∨ B = 16 ∨ B = 64) : (r * B + q) * B + p - ((p * B + q) * B + r) = ((r - p - 1) * B + (B - 1)) * B + (B - (r - p)) := by
  rcases hB with rfl | rfl | rfl <;> omega
theorem dif_ok (w : World) (B p q r : Int) (tB t : Tok) (hB : B = 8 ∨ B = 16 ∨ B = 64) (h0 : 0 ≤ p) (h1 : p < r) (h2 : r < B) :
    Claim w 139 6 [.int B tB, .int ((r * B + q) * B + p - ((p * B + q) * B + r)) t] [] (fun _ => True) (fun _ _ v => ∃ t, v = .str (txt B (r - p - 1) (B - 1) (B - (r - p))) t) := by
  rw [dif_is hB]
  exact num_ok w B _ _ _ tB t hB ⟨by omega, by omega⟩ ⟨by omega, by omega⟩ ⟨by omega, by omega⟩
theorem difd_ok (w : World) (B p q r d : Int) (tB t : Tok) (hB : B = 8 ∨ B = 16 ∨ B = 64) (he : r - p = d) (h0 : 0 ≤ p) (h1 : 0 < d) (h2 : r < B) :
    Claim w 139 6 [.int B tB, .int ((r * B + q) * B + p - ((p * B + q) * B + r)) t] [] (fun _ => True) (fun _ _ v => ∃ t, v = .str (txt B (d - 1) (B - 1) (B - d)) t) := by
  subst he
  exact dif_ok w B p q r tB t hB h0 (by omega) h2
theorem told8 {p q r d : Int} (he : r - p = d) (h0 : 0 < d) (h1 : d < 8) : four ((r * 8 + q) * 8 + p - ((p * 8 + q) * 8 + r)) = txt 64 ((8 * 8 / 64 * d - 1) / 64) ((8 * 8 / 64 * d - 1) % 64) (64 - d) := by
  have e : 8 * 8 / 64 * d - 1 = d - 1 := congrArg (· - 1) (Int.one_mul d)
  rw [e, Int.ediv_eq_zero_of_lt (by omega) (by omega), Int.emod_eq_of_lt (by omega) (by omega)]
  exact four_num (by omega) (by decide) ⟨by omega, by omega⟩ ⟨by omega, by omega⟩
theorem told16 {p q r d : Int} (he : r - p = d) (h0 : 0 < d) (h1 : d < 16) : four ((r * 16 + q) * 16 + p - ((p * 16 + q) * 16 + r)) = txt 64 ((16 * 16 / 64 * d - 1) / 64) ((16 * 16 / 64 * d - 1) % 64) (64 - d) := by
  have e : 16 * 16 / 64 * d - 1 = 4 * d - 1 := rfl
  rw [e, Int.ediv_eq_zero_of_lt (by omega) (by omega), Int.emod_eq_of_lt (by omega) (by omega)]
  exact four_num (by omega) (by decide) ⟨by omega, by omega⟩ ⟨by omega, by omega⟩
theorem told0 {B p q r d : Int} (he : r - p = d) (h0 : d = 0) : four ((r * B + q) * B + p - ((p * B + q) * B + r)) = txt 64 0 0 0 := by
  have e : p = r := by omega
  rw [show (r * B + q) * B + p - ((p * B + q) * B + r) = 0 by subst e; omega, four_txt (by omega) (by omega)]
  rfl
theorem told {B p q r d : Int} (hB : B = 8 ∨ B = 16 ∨ B = 64) (hl : B < 64) (he : r - p = d) (h0 : 0 < d) (h1 : d < B) : four ((r * B + q) * B + p - ((p * B + q) * B + r)) = txt 64 ((B * B / 64 * d - 1) / 64) ((B * B / 64 * d - 1) % 64) (64 - d) := by
  rcases hB with rfl | rfl | rfl
  · exact told8 he h0 h1
  · exact told16 he h0 h1
  · exact absurd hl (by decide)
theorem dif_lo {B p q r : Int} (hB : B = 8 ∨ B = 16 ∨ B = 64) (h : p ≤ r) : 0 ≤ (r * B + q) * B + p - ((p * B + q) * B + r) := by rcases hB with rfl | rfl | rfl <;> omega
theorem dif_hi {B p q r : Int} (hB : B = 8 ∨ B = 16 ∨ B = 64) (h0 : 0 ≤ p) (h1 : r < B) : (r * B + q) * B + p - ((p * B + q) * B + r) < 16777216 := by rcases hB with rfl | rfl | rfl <;> omega
theorem bb_is {B : Int} (hB : B = 8 ∨ B = 16 ∨ B = 64) : 0 ≤ B * B ∧ B * B ≤ 4096 ∧ 8 ≤ B ∧ B ≤ 64 := by rcases hB with rfl | rfl | rfl <;> decide
theorem high_is {B d : Int} (hB : B = 8 ∨ B = 16 ∨ B = 64) (h0 : 0 < d) (h1 : d < B) : 0 ≤ B * B / 64 * d - 1 ∧ B * B / 64 * d - 1 < 4096 := by rcases hB with rfl | rfl | rfl <;> omega
theorem high_0 {B d : Int} (hB : B = 8 ∨ B = 16 ∨ B = 64) (h : d = 0) : B * B / 64 * d - 1 = -1 := by subst h; rcases hB with rfl | rfl | rfl <;> decide
theorem dif0_ok (w : World) (B p q r : Int) (tB t : Tok) (hB : B = 8 ∨ B = 16 ∨ B = 64) (h1 : p = r) :
    Claim w 139 6 [.int B tB, .int ((r * B + q) * B + p - ((p * B + q) * B + r)) t] [] (fun _ => True) (fun _ _ v => ∃ t, v = .str (txt B 0 0 0) t) := by
  have e : (r * B + q) * B + p - ((p * B + q) * B + r) = 0 := by subst h1; omega
  rw [e]
  rcases hB with rfl | rfl | rfl
  · exact made8_ok w 0 tB t (by omega) (by omega)
  · exact made16_ok w 0 tB t (by omega) (by omega)
  · exact made64_ok w 0 tB t (by omega) (by omega)
section
variable {prog : Program} {w : World} {A : Around} {E : Value → Shared → Prop} {s : Shared} {Q : Value → Shared → Prop}
theorem ne_same {x y : Str} {t u : Tok} (e : x = y) (h : Q (.bool false) s) : wpAny (model prog w) A (compareOp .NotEq (.str x t) (.str y u)) Q E s := by
  subst e
  refine ne_str ?_
  rw [show (x != x) = false by simp]
  exact h
theorem truthy_nz {Q : Bool → Shared → Prop} {a : Int} {t : Tok} (h0 : a ≠ 0) (h : Q true s) : wpAny (model prog w) A (truthy (.int a t)) Q E s :=
  P.truthy_int (by rw [bne_iff_ne.mpr h0]; exact h)
theorem truthy_z {Q : Bool → Shared → Prop} {a : Int} {t : Tok} (h0 : a = 0) (h : Q false s) : wpAny (model prog w) A (truthy (.int a t)) Q E s :=
  P.truthy_int (by rw [bne_eq_false_iff_eq.mpr h0]; exact h)
theorem isL {h₀ h : Heap} {L l : Addr} {vs : List Value} {n : Nat} {news : List (Addr × Obj)} (N : News h₀ L h news) (hm : (l, W.listOf vs.toArray n) ∈ news) : h.IsList l vs.toArray := ⟨_, (N _ hm).1, rfl, n, rfl⟩
end
end
section
example : True := by
  w_top off
  trivial
/-! the plain law of the spreads -/
noncomputable def down : Int → Nat → List Int
  | _, 0 => []
  | a, n + 1 => a :: down (a - 1) n
theorem down_snoc : ∀ (n : Nat) (a : Int), down a n ++ [a - n] = down a (n + 1)
  | 0, a => by simp [down]
  | n + 1, a => by
    have h := down_snoc n (a - 1)
    show a :: (down (a - 1) n ++ [a - ((n + 1 : Nat) : Int)]) = a :: down (a - 1) (n + 1)
    rw [← h, show a - ((n + 1 : Nat) : Int) = a - 1 - (n : Int) by omega]
noncomputable def nxt (B s : Int) : Int := if s = 0 then 0 else max (B - s) (s - 1)
def Steps (B : Int) : Int → List Int → Prop
  | _, [] => True
  | s, s' :: r => s' = nxt B s ∧ 0 ≤ s' ∧ s' < B ∧ Steps B s' r
theorem steps_low {H : Int} (hH : 1 ≤ H) : ∀ (n : Nat) (x : Int), x = H + n → x < 2 * H → Steps (2 * H) x (down (x - 1) n ++ [H])
  | 0, x, e, h => by
    have hx : x = H := by omega
    subst hx
    refine ⟨?_, by omega, by omega, trivial⟩
    unfold nxt
    rw [if_neg (by omega)]
    omega
  | n + 1, x, e, h => by
    refine ⟨?_, by omega, by omega, steps_low hH n (x - 1) (by omega) (by omega)⟩
    unfold nxt
    rw [if_neg (by omega)]
    omega
theorem last_down : ∀ (n : Nat) (s a : Int), ((s :: down a (n + 1)).getLast?).getD 0 = a - n := by
  intro n s a
  rw [← down_snoc n a, ← List.cons_append, List.getLast?_append]
  rfl
/-- from a small spread -/
theorem steps_small {H s : Int} (h0 : 1 ≤ s) (h1 : s < H) : Steps (2 * H) s (down (2 * H - s) (2 * H - s - (H - 1)).toNat ++ [((s :: down (2 * H - s) (2 * H - s - (H - 1)).toNat).getLast?).getD 0]) := by
  obtain ⟨m, hm⟩ : ∃ m : Nat, (2 * H - s - (H - 1)).toNat = m + 1 := ⟨(2 * H - s - (H - 1)).toNat - 1, by omega⟩
  rw [hm, last_down]
  refine ⟨?_, by omega, by omega, ?_⟩
  · unfold nxt
    rw [if_neg (by omega)]
    omega
  · rw [show 2 * H - s - (m : Int) = H by omega]
    exact steps_low (by omega) m _ (by omega) (by omega)
/-- from a great spread -/
theorem steps_great {H s : Int} (hH : 1 ≤ H) (h0 : H ≤ s) (h1 : s < 2 * H) : Steps (2 * H) s (down (s - 1) (s - 1 - (H - 1)).toNat ++ [((s :: down (s - 1) (s - 1 - (H - 1)).toNat).getLast?).getD 0]) := by
  have key := steps_low hH (s - H).toNat s (by omega) h1
  have e : (s - 1 - (H - 1)).toNat = (s - H).toNat := by omega
  rw [e]
  have el : ((s :: down (s - 1) (s - H).toNat).getLast?).getD 0 = H := by
    cases hm : (s - H).toNat with
    | zero => show s = H; omega
    | succ m => rw [last_down]; omega
  rw [el]
  exact key
theorem steps_zero (B : Int) (hB : 0 < B) : Steps B 0 [0, 0] := ⟨by unfold nxt; rfl, by omega, hB, by unfold nxt; rfl, by omega, hB, trivial⟩
section
variable {prog : Program} {w : World} {A : Around} {E : Value → Shared → Prop} {s : Shared} {h₀ : Heap} {L : Addr} {m : Str → Option Value} {env : Env} {news : List (Addr × Obj)}
/-- [k for k in range(a, b, -1)] -/
def SrcD (h₀ : Heap) (L : Addr) (A : Around) (m : Str → Option Value) (Fin : Shared → List Value → List (Addr × Obj) → Prop) (xv : Value) (s₁ : Shared) : Prop :=
  ∃ r a b t u v news, xv = .ref r ∧ A.handled = none ∧ Fr h₀ L s₁.heap m ∧ News h₀ L s₁.heap news ∧ IsRange s₁.heap r a b (-1) t u v ∧ (-1000 ≤ a ∧ a < 1000) ∧ (-1000 ≤ b ∧ b < 1000) ∧
    ∀ s₂ : Shared, (∃ h, s₂ = { s₁ with heap := h }) → ∀ ys, IntsAre ys (down a (a - b).toNat) → Fin s₂ ys news
theorem SrcD.of {Fin : Shared → List Value → List (Addr × Obj) → Prop} {r : Addr} {a b : Int} {t u v : Tok} {s₁ : Shared} (hh : A.handled = none) (F : Fr h₀ L s₁.heap m) (N : News h₀ L s₁.heap news) (hr : IsRange s₁.heap r a b (-1) t u v) (ha : -1000 ≤ a ∧ a < 1000) (hb : -1000 ≤ b ∧ b < 1000)
    (h : ∀ g ys, IntsAre ys (down a (a - b).toNat) → Fin { s₁ with heap := g } ys news) : SrcD h₀ L A m Fin (.ref r) s₁ := ⟨r, a, b, t, u, v, news, rfl, hh, F, N, hr, ha, hb, fun _ ⟨g, e⟩ ys hy => e ▸ h g ys hy⟩
theorem compRest_name {x : Str} {pe : Pos} {scope : Scope} {cl : List (Str × Addr)} {a : Int} {Fin : List Value → List (Addr × Obj) → Prop}
    (hk : scope.kind = .function) (hl : ∀ C, (compEnvC scope cl C env).kindOf x = some .local) (hd : (x == ("__debug__" : Str)) = false) (news : List (Addr × Obj)) :
    ∀ (n i : Nat) (ys : List Value), IntsAre ys (down a i) → (∀ ys', IntsAre ys' (down a (i + n)) → Fin ys' news) →
      LCg.CompRest prog w A h₀ L m env (.Name x pe) x scope cl s (fun _ => True) (fun i v => ∃ t, v = .int (a + (i : Int) * -1) t) Fin n i ys news
  | 0, i, ys, hy, fin => fin ys hy
  | n + 1, i, ys, hy, fin => by
    refine LCg.CompRest.succ fun v I oI C oC D m₂ h tk E' hv hC hx F N off ne => ?_
    obtain ⟨t, rfl⟩ := hv
    refine LCgL.ld_own N (.tail _ (.head _)) hC hx ?_ ?_ (hl C) hd
    · refine LCg.CompEnd.intro F N news (fun p hp => hp) off trivial (compRest_name hk hl hd news n (i + 1) _ ?_ fun ys' hy' => fin ys' (by rw [show i + (n + 1) = i + 1 + n by omega]; exact hy'))
      rw [← down_snoc i a]
      refine IntsAre.append hy ?_
      rw [show a + (i : Int) * -1 = a - i by omega]
      exact .cons _ _ .nil
    · show (relabel scope env).kind = .function
      exact hk
theorem ListComp_D {iter : Expr} {x : Str} {px pe : Pos} {scope : Scope} {cl : List (Str × Addr)} {pos : Pos} {Q : Value → Shared → Prop} (_F₀ : Fr h₀ L s.heap m)
    (hclos : closureFor scope env = pure cl) (hcell : ∀ y ∈ scope.names, y.2 ≠ .cell) (hkind : scope.kind = .function)
    (hnames : ∀ y ∈ scope.names, y.2 = .local → scope.names.lookup y.1 = some .local) (hx : scope.names.lookup x = some .local)
    (hl : ∀ C, (compEnvC scope cl C env).kindOf x = some .local) (hd : (x == ("__debug__" : Str)) = false)
    (h : wpAny (model prog w) A (eval iter env) (SrcD h₀ L A m (fun s₂ => LCg.FinE h₀ L m s₂ Q)) E s)
    (hs : ∀ x, foldedSetIterable iter env x = pure x) :
    wpAny (model prog w) A (eval (.ListComp (.Name x pe) [⟨.Name x px, iter, [], 0⟩] scope pos) env) Q E s := by
  rw [eval_ListComp]
  refine wpAny_comprehension_free (use := none) rfl hs hclos hkind hnames (wpAny_mono h (fun xv s₁ h₁ => ?_) fun _ _ e => e)
  obtain ⟨r, a, b, t, u, v, news, rfl, hh, F, N, hr, ha, hb, R⟩ := h₁
  have hn : Builtin.Range.rangeSize a b (-1) = (((a - b).toNat : Nat) : Int) := by
    unfold Builtin.Range.rangeSize
    rw [if_neg (by decide)]
    split
    · rw [show (-(-1) : Int) = 1 by rfl, Int.ediv_one]; omega
    · omega
  have fit : ∀ z : Int, -100000 ≤ z → z < 100000 → Builtin.Range.rangeFitsLong z = true := fun z h1 h2 => by
    unfold Builtin.Range.rangeFitsLong
    simp only [Bool.and_eq_true, decide_eq_true_eq]
    omega
  have hsm : Builtin.Range.small a b (-1) = true := by
    unfold Builtin.Range.small
    rw [hn, fit a (by omega) (by omega), fit b (by omega) (by omega), fit (-1) (by decide) (by decide), fit _ (by omega) (by omega), if_neg (by decide), fit (b + (-1 + 1)) (by omega) (by omega), Bool.or_true]
    rfl
  refine wpAny_pyIter_range hr hsm ?_
  refine LCg.block_U (n := (a - b).toNat) (Fin := LCg.FinE h₀ L m { s₁ with heap := s₁.heap.push { cls := .type "range_iterator", data := .fields #[rawInt a, rawInt (Builtin.Range.rangeSize a b (-1)), rawInt (-1)] } } Q) (Walks.range hh s₁.heap.objs.size a (-1) (a - b).toNat) (by rw [sizeLine_eq]; omega) (fun i h st => ⟨_, st⟩) (fun i h h' o nw st e e' _ _ _ => ?_) hcell hkind hx (by show IsRangeIter _ _ _ _ _; rw [hn]; simpa using Heap.get?_push_size _ rfl) (fun b hb => ?_)
    (F.keeps fun _ _ e => Heap.get?_push_of_some _ e) (N.grown fun _ _ e => Heap.get?_push_of_some _ e) (Nat.ne_of_lt F.ns.lt) (next_is_new F) (fun p hp => Nat.ne_of_lt (Heap.lt_size (N p hp).1)) trivial (compRest_name hkind hl hd news _ 0 [] .nil fun ys' hy' => R { s₁ with heap := s₁.heap.push { cls := .type "range_iterator", data := .fields #[rawInt a, rawInt (Builtin.Range.rangeSize a b (-1)), rawInt (-1)] } } ⟨_, rfl⟩ ys' (by rw [Nat.zero_add] at hy'; exact hy')) ?_
  · have st' : h.get? s₁.heap.objs.size = some _ := st
    show h'.get? s₁.heap.objs.size = some _
    rw [e', ← e]
    exact st'
  · rw [List.mem_singleton.mp hb]
    show s₁.heap.objs.size < (s₁.heap.push _).objs.size
    rw [Heap.size_push]; exact Nat.lt_succ_self _
  · intro D C h tk m' ys news' F' N' o1 hn hC₀ hD₀ hCL hDL hCD offC fin
    refine ⟨m', hn, fun h'' hs'' => fin D h'' tk (F'.change hs'' hCL hC₀) (fun p hp => ?_) o1⟩
    refine ⟨hs''.extBut _ _ ?_ (N' p hp).1, (N' p hp).2⟩
    rcases List.mem_cons.mp hp with rfl | hp
    · exact Ne.symm hCD
    · exact offC p hp
end
end
section
example : True := by
  w_top off
  trivial
theorem down_length : ∀ (n : Nat) (a : Int), (down a n).length = n
  | 0, _ => rfl
  | n + 1, a => congrArg (· + 1) (down_length n (a - 1))
section
variable {prog : Program} {w : World} {A : Around} {E : Value → Shared → Prop} {s : Shared} {h₀ : Heap} {L : Addr} {m : Str → Option Value} {news : List (Addr × Obj)} {Q : Value → Shared → Prop}
theorem rangeD {a b : Int} {t u v : Tok} (F : Fr h₀ L s.heap m) (N : News h₀ L s.heap news)
    (h : ∀ r h' tk t₁ u₁ v₁, IsRange h' r a b (-1) t₁ u₁ v₁ → Fr h₀ L h' m → News h₀ L h' news → Q (.ref r) { s with heap := h', toks := tk }) :
    wpAny (model prog w) A (call (.type "range") [.int a t, .int b u, .int (-1) v]) Q E s :=
  range3_rows F N (by decide) (fun h' tk t₁ u₁ v₁ hr F' N' _ => h _ h' tk t₁ u₁ v₁ hr F' N') (Or.inl (PyProof.noPylong_small (by decide)))
theorem addI {D1 D2 : Addr} {vs1 vs2 : List Value} {ns1 ns2 : List Int} (F : Fr h₀ L s.heap m) (N : News h₀ L s.heap news) (h1 : s.heap.IsList D1 vs1.toArray) (h2 : s.heap.IsList D2 vs2.toArray) (i1 : IntsAre vs1 ns1) (i2 : IntsAre vs2 ns2) (hz : ns1.length + ns2.length ≤ 10000)
    (h : ∀ D h' vs, Fr h₀ L h' m → News h₀ L h' ((D, W.listOf vs.toArray 0) :: news) → (∀ p ∈ news, p.1 < D) → IntsAre vs (ns1 ++ ns2) → Q (.ref D) { s with heap := h' }) :
    wpAny (model prog w) A (binaryOp .Add (.ref D1) (.ref D2)) Q E s :=
  add_arrays F N h1 h2 (fun h' F' N' => h _ h' (vs1 ++ vs2) F' N' (fun p hp => Heap.lt_size (N p hp).1) (IntsAre.append i1 i2)) (by
    have e1 := i1.length
    have e2 := i2.length
    rw [List.size_toArray, List.size_toArray, sizeLine_eq]
    omega)
theorem ints_last {vs : List Value} {ns : List Int} (hi : IntsAre vs ns) (h : ns ≠ []) : ∃ t, vs.getLast? = some (.int (ns.getLast?.getD 0) t) := by
  obtain ⟨x, hx⟩ : ∃ x, ns.getLast? = some x := ⟨ns.getLast h, List.getLast?_eq_some_getLast h⟩
  rw [hx, List.getLast?_eq_getElem?, hi.length]
  rw [List.getLast?_eq_getElem?] at hx
  exact hi.get _ _ hx
theorem pick {P : Int → Prop} {x f g h : Int} (hx : x = f ∨ x = g ∨ x = h) (hf : P f) (hg : P g) (hh : P h) : P x := by
  rcases hx with rfl | rfl | rfl
  · exact hf
  · exact hg
  · exact hh
theorem pick_last {vs : List Value} {v : Value} (h : vs.getLast? = some v) : slicePick vs.toArray (some (-1)) none none = [v].toArray := by
  obtain ⟨ws, rfl⟩ := List.getLast?_eq_some_iff.mp h
  have hl : (ws ++ [v]).toArray.size = ws.length + 1 := by simp
  have e : sliceBounds (some (-1)) none none (ws ++ [v]).toArray.size = ((ws.length : Int), ((ws.length + 1 : Nat) : Int), 1) := by
    rw [hl]
    unfold sliceBounds
    simp only [Option.getD_none]
    rw [if_pos (by decide), if_pos (by decide), if_pos (by decide)]
    refine Prod.ext ?_ rfl
    show max 0 (min (-1 + ((ws.length + 1 : Nat) : Int)) ((ws.length + 1 : Nat) : Int)) = (ws.length : Int)
    omega
  rw [kmk_pick_nat _ e, show ws.length + 1 - ws.length = 1 by omega]
  simp
theorem lastI {value slice : Expr} {l : Addr} {vs : List Value} {ns : List Int} {vl vu : Value} (F : Fr h₀ L s.heap m) (N : News h₀ L s.heap news) (hl : s.heap.IsList l vs.toArray) (pl : IsPart vl (some (-1))) (pu : IsPart vu none) (hi : IntsAre vs ns) (hne : ns ≠ []) (hz : ns.length ≤ 10000)
    (h : ∀ D ws h', Fr h₀ L h' m → News h₀ L h' ((D, W.listOf (List.toArray ws) 0) :: news) → (∀ p ∈ news, p.1 < D) → IntsAre ws [ns.getLast?.getD 0] → Q (.ref D) { s with heap := h' })
    (hs : subscripted slice false (.ref l) (.ref s.heap.objs.size) = operate [.ref s.heap.objs.size, .ref l] (getItem (.ref l) (.ref s.heap.objs.size))) (ht : ∀ r, letTemporaryGo value (.ref l) r = pure ()) :
    wpAny (model prog w) A (subscriptTail value slice (.ref l) (.ref s.heap.objs.size)) Q E { s with heap := s.heap.push { cls := .type "slice", data := .fields #[vl, vu, .none] } } := by
  obtain ⟨t, hv⟩ := ints_last hi hne
  have hm : IntsAre (slicePick vs.toArray (some (-1)) none none).toList [ns.getLast?.getD 0] := by
    rw [pick_last hv]
    exact .cons _ _ .nil
  refine kmk_slice_ints F N hl pl pu hi hm rfl (fun D ws h' F' N' l1 i _ _ => h D ws h' F' N' l1 i) hs ht ?_
  rw [List.size_toArray, hi.length, sizeLine_eq]
  omega
theorem perm3 {f g h : Int} {ns : List Int} (hp : ns.Perm [f, g, h]) (ho : ns.Pairwise (· ≤ ·)) : ∃ p q r, ns = [p, q, r] ∧ p ≤ q ∧ q ≤ r ∧ (p = f ∨ p = g ∨ p = h) ∧ (q = f ∨ q = g ∨ q = h) ∧ (r = f ∨ r = g ∨ r = h) ∧ (p ≤ f ∧ p ≤ g ∧ p ≤ h) ∧ (f ≤ r ∧ g ≤ r ∧ h ≤ r) := by
  have hl := hp.length_eq
  match ns, hl with
  | [p, q, r], _ =>
    have h1 : p ≤ q := by simp at ho; omega
    have h2 : q ≤ r := by simp at ho; omega
    have mem : ∀ x, x ∈ [p, q, r] ↔ x ∈ [f, g, h] := fun x => hp.mem_iff
    have ap := (mem p).mp (by simp)
    have aq := (mem q).mp (by simp)
    have ar := (mem r).mp (by simp)
    have bf := (mem f).mpr (by simp)
    have bg := (mem g).mpr (by simp)
    have bh := (mem h).mpr (by simp)
    simp only [List.mem_cons, List.not_mem_nil, or_false] at ap aq ar bf bg bh
    have h3 := Int.le_trans h1 h2
    exact ⟨p, q, r, rfl, h1, h2, ap, aq, ar, ⟨pick (P := (p ≤ ·)) bf (Int.le_refl p) h1 h3, pick (P := (p ≤ ·)) bg (Int.le_refl p) h1 h3, pick (P := (p ≤ ·)) bh (Int.le_refl p) h1 h3⟩,
      pick (P := (· ≤ r)) bf h3 h2 (Int.le_refl r), pick (P := (· ≤ r)) bg h3 h2 (Int.le_refl r), pick (P := (· ≤ r)) bh h3 h2 (Int.le_refl r)⟩
theorem sorted3 {l : Addr} {f g h : Int} {tf tg th : Tok} (F : Fr h₀ L s.heap m) (N : News h₀ L s.heap news) (hl : s.heap.IsList l [Value.int f tf, Value.int g tg, Value.int h th].toArray)
    (k : ∀ D p q r tp tq tr c h', Fr h₀ L h' m → News h₀ L h' ((D, W.listOf [Value.int p tp, Value.int q tq, Value.int r tr].toArray c) :: news) → (∀ q ∈ news, q.1 < D) →
      p ≤ q → q ≤ r → (p = f ∨ p = g ∨ p = h) → (q = f ∨ q = g ∨ q = h) → (r = f ∨ r = g ∨ r = h) → (p ≤ f ∧ p ≤ g ∧ p ≤ h) → (f ≤ r ∧ g ≤ r ∧ h ≤ r) → Q (.ref D) { s with heap := h' }) :
    wpAny (model prog w) A (call (.builtin "sorted") [.ref l]) Q E s := by
  refine kso_sorted F N hl (.cons _ _ (.cons _ _ (.cons _ _ .nil))) (by simp) fun D vs' ns' c h' F' N' l1 hi _ hp ho _ => ?_
  obtain ⟨p, q, r, rfl, h1, h2, h3, h4, h5, h6, h7⟩ := perm3 hp ho
  cases hi with
  | cons _ tp hi => cases hi with
    | cons _ tq hi => cases hi with
      | cons _ tr hi =>
        cases hi
        exact k D p q r tp tq tr c h' F' N' l1 h1 h2 h3 h4 h5 h6 h7
/-- three figures to the base B, the greatest less the least is d -/
def Spr (B f g h d : Int) : Prop := (0 ≤ f ∧ f < B) ∧ (0 ≤ g ∧ g < B) ∧ (0 ≤ h ∧ h < B) ∧ ∃ M N, (M = f ∨ M = g ∨ M = h) ∧ (f ≤ M ∧ g ≤ M ∧ h ≤ M) ∧ (N = f ∨ N = g ∨ N = h) ∧ (N ≤ f ∧ N ≤ g ∧ N ≤ h) ∧ M - N = d
theorem Spr.out {B f g h d p q r : Int} (S : Spr B f g h d) (h3 : p = f ∨ p = g ∨ p = h) (h4 : q = f ∨ q = g ∨ q = h) (h5 : r = f ∨ r = g ∨ r = h) (h6 : p ≤ f ∧ p ≤ g ∧ p ≤ h) (h7 : f ≤ r ∧ g ≤ r ∧ h ≤ r) : 0 ≤ p ∧ 0 ≤ q ∧ q < B ∧ r < B ∧ r - p = d := by
  obtain ⟨a1, a2, a3, M, N, b1, b2, b3, b4, b5⟩ := S
  have e1 : r = M := Int.le_antisymm (pick (P := (· ≤ M)) h5 b2.1 b2.2.1 b2.2.2) (pick (P := (· ≤ r)) b1 h7.1 h7.2.1 h7.2.2)
  have e2 : p = N := Int.le_antisymm (pick (P := (p ≤ ·)) b3 h6.1 h6.2.1 h6.2.2) (pick (P := (N ≤ ·)) h3 b4.1 b4.2.1 b4.2.2)
  exact ⟨pick (P := (0 ≤ ·)) h3 a1.1 a2.1 a3.1, pick (P := (0 ≤ ·)) h4 a1.1 a2.1 a3.1, pick (P := (· < B)) h4 a1.2 a2.2 a3.2, pick (P := (· < B)) h5 a1.2 a2.2 a3.2, by rw [e1, e2]; exact b5⟩
theorem sorted3s {l : Addr} {B f g h d : Int} {tf tg th : Tok} (S : Spr B f g h d) (F : Fr h₀ L s.heap m) (N : News h₀ L s.heap news) (hl : s.heap.IsList l [Value.int f tf, Value.int g tg, Value.int h th].toArray)
    (k : ∀ D p q r tp tq tr c h', Fr h₀ L h' m → News h₀ L h' ((D, W.listOf [Value.int p tp, Value.int q tq, Value.int r tr].toArray c) :: news) → (∀ q ∈ news, q.1 < D) →
      0 ≤ p → p ≤ r → r < B → (0 ≤ p ∧ p < B) → (0 ≤ q ∧ q < B) → (0 ≤ r ∧ r < B) → r - p = d → Q (.ref D) { s with heap := h' }) :
    wpAny (model prog w) A (call (.builtin "sorted") [.ref l]) Q E s := by
  refine sorted3 F N hl fun D p q r tp tq tr c h' F' N' l1 h1 h2 h3 h4 h5 h6 h7 => ?_
  obtain ⟨c1, c2, c3, c4, c5⟩ := S.out h3 h4 h5 h6 h7
  have c6 : p ≤ r := Int.le_trans h1 h2
  exact k D p q r tp tq tr c h' F' N' l1 c1 c6 c4 ⟨c1, Int.lt_of_le_of_lt c6 c4⟩ ⟨c2, c3⟩ ⟨Int.le_trans c1 c6, c4⟩ c5
def Stps (B : Int) (z : Bool) (x : Str) : List Int → Prop
  | [] => True
  | d :: r => (if z = true then d = 0 else 0 < d) ∧ d < B ∧ (∃ f g h, x = txt B f g h ∧ Spr B f g h d) ∧ Steps B d r
theorem mkSpr {B a b c M N : Int} (ha : 0 ≤ a ∧ a < B) (hb : 0 ≤ b ∧ b < B) (hc : 0 ≤ c ∧ c < B) (h2 : a ≤ M ∧ b ≤ M ∧ c ≤ M) (h4 : N ≤ a ∧ N ≤ b ∧ N ≤ c) (h1 : M = a ∨ M = b ∨ M = c) (h3 : N = a ∨ N = b ∨ N = c) : Spr B a b c (M - N) := ⟨ha, hb, hc, M, N, h1, h2, h3, h4, rfl⟩
theorem Spr.range {B a b c d : Int} (S : Spr B a b c d) : 0 ≤ d ∧ d < B := by
  obtain ⟨a1, a2, a3, M, N, b1, b2, b3, b4, b5⟩ := S
  have hM : M < B := pick (P := (· < B)) b1 a1.2 a2.2 a3.2
  have hN : 0 ≤ N := pick (P := (0 ≤ ·)) b3 a1.1 a2.1 a3.1
  have hl : N ≤ M := Int.le_trans b4.1 b2.1
  clear a1 a2 a3 b1 b2 b3 b4
  omega
theorem stps_great {B a b c d : Int} (hB : B = 8 ∨ B = 16 ∨ B = 64) (S : Spr B a b c d) (h0 : d ≠ 0) (h1 : ¬ d < B / 2) : Stps B false (txt B a b c) ([d] ++ down (d - 1) (d - 1 - (B / 2 - 1)).toNat ++ [([d] ++ down (d - 1) (d - 1 - (B / 2 - 1)).toNat).getLast?.getD 0]) := by
  have hr := S.range
  refine ⟨by show 0 < d; omega, hr.2, ⟨_, _, _, rfl, S⟩, ?_⟩
  rcases hB with rfl | rfl | rfl
  · exact steps_great (H := 4) (by decide) (by omega) (by omega)
  · exact steps_great (H := 8) (by decide) (by omega) (by omega)
  · exact steps_great (H := 32) (by decide) (by omega) (by omega)
theorem stps_small {B a b c d : Int} (hB : B = 8 ∨ B = 16 ∨ B = 64) (S : Spr B a b c d) (h0 : d ≠ 0) (h1 : d < B / 2) : Stps B false (txt B a b c) ([d] ++ down (B - d) (B - d - (B / 2 - 1)).toNat ++ [([d] ++ down (B - d) (B - d - (B / 2 - 1)).toNat).getLast?.getD 0]) := by
  have hr := S.range
  refine ⟨by show 0 < d; omega, hr.2, ⟨_, _, _, rfl, S⟩, ?_⟩
  rcases hB with rfl | rfl | rfl
  · exact steps_small (H := 4) (by omega) (by omega)
  · exact steps_small (H := 8) (by omega) (by omega)
  · exact steps_small (H := 32) (by omega) (by omega)
theorem stps_nought {B a b c d : Int} (hB : B = 8 ∨ B = 16 ∨ B = 64) (S : Spr B a b c d) (h0 : d = 0) : Stps B true (txt B a b c) ([0, 0] ++ [([0, 0] : List Int).getLast?.getD 0]) := by
  subst h0
  exact ⟨rfl, S.range.2, ⟨_, _, _, rfl, S⟩, steps_zero B (by omega)⟩
theorem spr_next {B d : Int} (hB : 2 ≤ B) (h0 : 0 < d) (h1 : d < B) : Spr B (d - 1) (B - 1) (B - d) (nxt B d) := by
  have e : nxt B d = max (B - d) (d - 1) := if_neg (Int.ne_of_gt h0)
  rw [e]
  refine ⟨⟨by omega, by omega⟩, ⟨by omega, by omega⟩, ⟨by omega, by omega⟩, ?_⟩
  rcases Int.le_total (d - 1) (B - d) with h | h
  · exact ⟨B - 1, d - 1, .inr (.inl rfl), ⟨by omega, Int.le_refl _, by omega⟩, .inl rfl, ⟨Int.le_refl _, by omega, h⟩, by rw [Int.max_eq_left h]; omega⟩
  · exact ⟨B - 1, B - d, .inr (.inl rfl), ⟨by omega, Int.le_refl _, by omega⟩, .inr (.inr rfl), ⟨h, by omega, Int.le_refl _⟩, by rw [Int.max_eq_right h]; omega⟩
theorem stps_next {B d : Int} (hB : 2 ≤ B) (h0 : 0 < d) (h1 : d < B) : ∀ {r : List Int}, Steps B d r → Stps B false (txt B (d - 1) (B - 1) (B - d)) r
  | [], _ => trivial
  | e :: r, ⟨h2, h3, h4, h5⟩ => ⟨by
      show 0 < e
      rw [h2]
      unfold nxt
      rw [if_neg (by omega)]
      omega, h4, ⟨_, _, _, rfl, h2 ▸ spr_next hB h0 h1⟩, h5⟩
theorem stps_zero {B d : Int} (hB : 2 ≤ B) (h0 : d = 0) : ∀ {r : List Int}, Steps B d r → Stps B true (txt B 0 0 0) r
  | [], _ => trivial
  | e :: r, ⟨h2, h3, h4, h5⟩ => by
    subst h0
    have he : e = 0 := h2
    subst he
    exact ⟨rfl, h4, ⟨0, 0, 0, rfl, ⟨by omega, by omega⟩, ⟨by omega, by omega⟩, ⟨by omega, by omega⟩, 0, 0, by omega, by omega, by omega, by omega, rfl⟩, h5⟩
end
section
variable {prog : Program} {w : World} {A : Around} {E : Value → Shared → Prop} {s : Shared} {env : Env} {h₀ : Heap} {target : Expr} {body : List Stmt} {Q : Flow → Shared → Prop}
theorem items_subK {ws : List (Addr × String)} {keep : List (Addr × Obj)} {r : List Itm} {m : Str → Option Value} {n' n'' : List (Addr × Obj)} (hs : ∀ p ∈ n'', p ∈ n') (h : ItemsRest prog w A E h₀ env target body Q s ws keep r m n'') :
    ItemsRest prog w A E h₀ env target body Q s ws keep r m n' := by
  cases r with
  | nil => exact fun h' tk F N => h h' tk F fun p hp => N p (hs p hp)
  | cons a r =>
    intro v h' tk ha F
    have all : ∀ (ws : List (Addr × String)) (k k' : List (Addr × Obj) → Prop), (∀ its, k its → k' its) → AllObj ws k → AllObj ws k' := by
      intro ws
      induction ws with
      | nil => intro k k' hk a; exact hk _ a
      | cons a r ih => intro k k' hk b o ho; exact ih _ _ (fun its q => hk _ q) (b o ho)
    refine all _ _ _ (fun its q N => q fun p hp => ?_) (h v h' tk ha F)
    rcases List.mem_append.mp hp with hp | hp
    · exact N p (List.mem_append_left _ hp)
    · exact N p (List.mem_append_right _ (hs p hp))
theorem items_ind {ws : List (Addr × String)} {keep : List (Addr × Obj)} (G : List Value → (Str → Option Value) → List (Addr × Obj) → Prop)
    (nil : ∀ m n, G [] m n → ∀ h tk, Fr h₀ env.locals h m → News h₀ env.locals h n → Q .next { s with heap := h, toks := tk })
    (cons : ∀ v r m n, G (v :: r) m n → ∀ h tk, Fr h₀ env.locals h m → AllObj ws (fun its => News h₀ env.locals h (its ++ n) →
      wpAny (model prog w) A (assign target env v) (fun _ s₂ => wpAny (model prog w) A (execs body env) (UnrPostW h₀ env.locals { s with heap := h, toks := tk } its (fun m' n' => SubL keep n' ∧ SubG (G r) m' n') Q) E s₂) E { s with heap := h, toks := tk })) :
    ∀ (vs : List Value) m n, G vs m n → ItemsRest prog w A E h₀ env target body Q s ws keep (vs.map .val) m n
  | [], m, n, g => nil m n g
  | v :: r, m, n, g => by
    refine ItemsRest.val fun h' tk F => ?_
    have all : ∀ (ws : List (Addr × String)) (k k' : List (Addr × Obj) → Prop), (∀ its, k its → k' its) → AllObj ws k → AllObj ws k' := by
      intro ws
      induction ws with
      | nil => intro k k' hk a; exact hk _ a
      | cons a r ih => intro k k' hk b o ho; exact ih _ _ (fun its q => hk _ q) (b o ho)
    refine all _ _ _ (fun its q N => ?_) (cons v r m n g h' tk F)
    refine wpAny_mono (q N) (fun _ s₂ q2 => wpAny_mono q2 (fun fl s₃ q3 => ?_) fun _ _ e => e) fun _ _ e => e
    have fin : UnrEndW h₀ env.locals { s with heap := h', toks := tk } its (fun m' n' => SubL keep n' ∧ SubG (G r) m' n') s₃ →
        UnrEndW h₀ env.locals { s with heap := h', toks := tk } its (fun m' n' => SubL keep n' ∧ ItemsRest prog w A E h₀ env target body Q s ws keep (r.map .val) m' n') s₃ := by
      rintro ⟨a, b, c, d, e1, e2, e3, e4, e5, n'', e6, e7⟩
      exact ⟨a, b, c, d, e1, e2, e3, e4, e5, items_subK e6 (items_ind G nil cons r _ _ e7)⟩
    cases fl with
    | ret v => exact q3
    | brk => exact q3
    | next => exact fin q3
    | cont => exact fin q3
theorem list_stop {ax : Addr} {lo : Obj} {vs : List Value} {n : Nat} {m₀ : Str → Option Value} {news : List (Addr × Obj)}
    (hh : A.handled = none) (F : Fr h₀ env.locals s.heap m₀) (N : News h₀ env.locals s.heap news) (hm : (ax, lo) ∈ news) (hc : lo.cls = .type "list") (hd : lo.data = .seq vs.toArray n)
    (rest₀ : Stop (∀ I : Addr, (∀ p ∈ news, p.1 < I) → ItemsRest prog w A E h₀ env target body Q s [(I, "list_iterator")] [(ax, lo)] (vs.map .val) m₀ news)) :
    wpAny (model prog w) A (pyIter (.ref ax)) (fun it s₂ => TurnsAt prog w A h₀ env target body Q E it s₂) E s :=
  iter_listTurns hh F N hm hc hd rest₀
end
/-- between the turns: the text, the base, the spreads to come -/
def Gch (B : Int) (z : Bool) (tB : Tok) (ax : Addr) (lo : Obj) (vs : List Value) (m' : Str → Option Value) (n' : List (Addr × Obj)) : Prop :=
  ∃ (m₁ : Str → Option Value) (x : Str) (tx : Tok) (ns : List Int), IntsAre vs ns ∧ Stps B z x ns ∧ n' = [(ax, lo)] ∧
    m' = (fun y => if y = Str.ofString "base" then some (.int B tB) else if y = Str.ofString "text" then some (.str x tx) else m₁ y)
theorem ch_map {B : Int} {tB tx : Tok} {x : Str} {m' : Str → Option Value} (h1 : m' (Str.ofString "base") = some (.int B tB)) (h2 : m' (Str.ofString "text") = some (.str x tx)) :
    m' = (fun y => if y = Str.ofString "base" then some (.int B tB) else if y = Str.ofString "text" then some (.str x tx) else m' y) := by
  funext y
  by_cases e1 : y = Str.ofString "base"
  · subst e1; rw [if_pos rfl]; exact h1
  · rw [if_neg e1]
    by_cases e2 : y = Str.ofString "text"
    · subst e2; rw [if_pos rfl]; exact h2
    · rw [if_neg e2]
theorem due_is {B d : Int} (_hB : B = 8 ∨ B = 16 ∨ B = 64) (h0 : 0 < d) (h1 : d < B) : (0 ≤ d - 1 ∧ d - 1 < B) ∧ (0 ≤ B - 1 ∧ B - 1 < B) ∧ (0 ≤ B - d ∧ B - d < B) := by
  clear _hB
  exact ⟨⟨by omega, by omega⟩, ⟨by omega, by omega⟩, ⟨by omega, by omega⟩⟩
theorem told_is {B d : Int} (hB : B = 8 ∨ B = 16 ∨ B = 64) (h0 : 0 < d) (h1 : d < B) : (0 ≤ (B * B / 64 * d - 1) / 64 ∧ (B * B / 64 * d - 1) / 64 < 64) ∧ (0 ≤ (B * B / 64 * d - 1) % 64 ∧ (B * B / 64 * d - 1) % 64 < 64) ∧ (0 ≤ 64 - d ∧ 64 - d < 64) := by
  obtain ⟨h2, h3⟩ := high_is hB h0 h1
  omega
theorem zero_is {B : Int} (hB : B = 8 ∨ B = 16 ∨ B = 64) : 0 ≤ (0 : Int) ∧ (0 : Int) < B := by omega
/-- behind the choice of the spreads: one list of ints -/
def MidS (h₀ : Heap) (L : Addr) (B : Int) (tB : Tok) (x : Str) (s : Shared) (f : Flow) (s' : Shared) : Prop :=
  f = .next ∧ ∃ (h' : Heap) (tk : Nat) (l : Addr) (vs : List Value) (ns : List Int) (z : Bool) (tx : Tok) (m₁ m' : Str → Option Value), s' = { s with heap := h', toks := tk } ∧ Fr h₀ L h' m' ∧ News h₀ L h' [(l, W.listOf vs.toArray 0)] ∧ IntsAre vs ns ∧ ns ≠ [] ∧ ns.length ≤ 1000 ∧
    Stps B z x (ns ++ [ns.getLast?.getD 0]) ∧ m' = (fun y => if y = Str.ofString "base" then some (.int B tB) else if y = Str.ofString "text" then some (.str x tx) else if y = Str.ofString "spreads" then some (.ref l) else m₁ y)
theorem mid_map {B : Int} {tB tx : Tok} {x : Str} {l : Addr} {m' : Str → Option Value} (h1 : m' (Str.ofString "base") = some (.int B tB)) (h2 : m' (Str.ofString "text") = some (.str x tx)) (h3 : m' (Str.ofString "spreads") = some (.ref l)) :
    m' = (fun y => if y = Str.ofString "base" then some (.int B tB) else if y = Str.ofString "text" then some (.str x tx) else if y = Str.ofString "spreads" then some (.ref l) else m' y) := by
  funext y
  by_cases e1 : y = Str.ofString "base"
  · subst e1; rw [if_pos rfl]; exact h1
  · rw [if_neg e1]
    by_cases e2 : y = Str.ofString "text"
    · subst e2; rw [if_pos rfl]; exact h2
    · rw [if_neg e2]
      by_cases e3 : y = Str.ofString "spreads"
      · subst e3; rw [if_pos rfl]; exact h3
      · rw [if_neg e3]
theorem news_one {h₀ h : Heap} {L : Addr} {x : Addr × Obj} {n : List (Addr × Obj)} (N : News h₀ L h n) (hm : x ∈ n) : News h₀ L h [x] := fun p hp => N p (mem_one hm p hp)
theorem if_mid {M : Model} {A : Around} {α : Type} {t : Sem α} {Qm Q : α → Shared → Prop} {E : Value → Shared → Prop} {s : Shared} (h1 : wpAny M A t Qm E s) (h2 : ∀ f s', Qm f s' → Q f s') : wpAny M A t Q E s := wpAny_mono h1 h2 fun _ _ e => e
theorem if_spr {M : Model} {A : Around} {t : Sem Flow} {Q : Flow → Shared → Prop} {E : Value → Shared → Prop} {s : Shared} {h₀ : Heap} {L : Addr} {m : Str → Option Value} {B : Int} {tB : Tok} {x : Str} (_F : Fr h₀ L s.heap m)
    (h1 : wpAny M A t (MidS h₀ L B tB x s) E s) (h2 : ∀ f s', MidS h₀ L B tB x s f s' → Q f s') : wpAny M A t Q E s := if_mid h1 h2
end
section
example : True := by
  w_top off
  k_with_none
  k_with "cell_enter" =>
    (refine' callG_plain ?k1Z9 ?k2Z9 ?k3Z9 ?k5Z9 ?kAZ9 ?kFZ9 ?kKZ9 ?k6Z9 ?k7Z9 ?k8Z9 ?k9Z9 ?kBZ9 ?_ ?c2Z9 ?c3Z9 ?c4Z9 ?c5Z9; (case kAZ9 => exact rfl); (case kFZ9 => exact rfl); (case kKZ9 => assumption); (case k1Z9 => k_asm); (case k2Z9 => k_asm); (case k3Z9 => k_asm); (case k5Z9 => k_asm); (case k6Z9 => k_is); (case k7Z9 => k_is); (case k8Z9 => ktr_room); (case k9Z9 => first | exact BindsTo.of_eq rfl | exact binds_K (by k_in) rfl (by k_is) rfl rfl rfl); (case c5Z9 => decide); (case kBZ9 => exact locs rfl); (case c2Z9 => exact rfl); (case c3Z9 => exact rfl); (case c4Z9 => exact rfl); k_whole; intro L' h' F' N' B' X' T'; (try dsimp only); (try k_fold))
  k_with "ktr_enter" =>
    (refine' callG_cells ?k1Z9 ?k2Z9 ?k3Z9 ?k5Z9 ?kAZ9 ?kFZ9 ?kKZ9 ?k6Z9 ?k7Z9 ?k8Z9 ?k9Z9 ?kBZ9 ?kDZ9 ?_ ?c2Z9 ?c3Z9 ?c4Z9; (case kAZ9 => exact rfl); (case kFZ9 => exact rfl); (case kKZ9 => assumption); (case k1Z9 => k_asm); (case k2Z9 => k_asm); (case k3Z9 => k_asm); (case k5Z9 => k_asm); (case k6Z9 => k_is); (case k7Z9 => k_is); (case k8Z9 => ktr_room); (case k9Z9 => first | exact BindsTo.of_eq rfl | exact binds_K (by k_in) rfl (by k_is) rfl rfl rfl); (case kBZ9 => exact rfl); (case kDZ9 => decide +kernel); (case c2Z9 => exact rfl); (case c3Z9 => exact rfl); (case c4Z9 => exact rfl); k_whole; intro L' h' tk' cells' F' N' Y' B' X' T'; k_cells Y'; (try simp only [List.cons_append, List.nil_append] at N'); (try dsimp only); (with_reducible show wpAny _ _ _ _ _ _); (try k_fold))
  k_with "subscriptTail Name Name str int" =>
    (k_here; (with_reducible show wpAny _ _ (subscriptTail _ _ (Value.str _ _) (Value.int _ _)) _ _ _); k_dflt (refine' sgn_item ?k1Z9 ?k2Z9 ?_ ?k3Z9 ?k4Z9; (case k1Z9 => omega); (case k2Z9 => omega); (case k3Z9 => with_unfolding_all rfl); (case k4Z9 => intro _; with_unfolding_all rfl); k_whole))
  k_with "call builtin:str.join" =>
    (k_here; (with_reducible show wpAny _ _ (call (Value.builtin "str.join") [Value.str _ _, Value.ref _]) _ _ _); k_dflt (refine' join3 ?k1Z9 ?k2Z9 ?k3Z9 ?k4Z9 ?k5Z9 ?_; (case k1Z9 => is_list); (case k2Z9 => rfl); (case k3Z9 => exact Nat.le_of_ble_eq_true rfl); (case k4Z9 => exact Nat.le_of_ble_eq_true rfl); (case k5Z9 => exact Nat.le_of_ble_eq_true rfl); k_whole); intro _ _)
  k_with "subscriptTail Name Name ref int" =>
    (k_here; (with_reducible show wpAny _ _ (subscriptTail _ _ (Value.ref _) (Value.int _ _)) _ _ _); k_dflt (refine' oct_item ?k1Z9 ?k2Z9 ?k3Z9 ?_ ?k4Z9; (case k1Z9 => is_list); (case k2Z9 => omega); (case k3Z9 => omega); (case k4Z9 => with_unfolding_all rfl); k_whole); intro _)
  k_with "call builtin:str.index" =>
    (k_here; (with_reducible show wpAny _ _ (call (Value.builtin "str.index") [Value.str _ _, Value.str _ _]) _ _ _); k_dflt (refine' sgn_index (slice_txt ?k1Z9 ?k2Z9 ?k3Z9 ?k4Z9 ?k5Z9) ?k6Z9 ?k7Z9 ?_; (case k1Z9 => omega); (case k2Z9 => decide +kernel); (case k3Z9 => decide +kernel); (case k4Z9 => omega); (case k5Z9 => omega); (case k6Z9 => unfold fig; omega); (case k7Z9 => unfold fig; omega); k_whole))
  k_with "call builtin:list.index" =>
    (k_here; (with_reducible show wpAny _ _ (call (Value.builtin "list.index") [Value.ref _, Value.str _ _]) _ _ _); k_dflt (refine' oct_index ?k1Z9 (slice_oct ?k2Z9 ?k3Z9 ?k4Z9 ?k5Z9) ?k6Z9 ?k7Z9 ?_; (case k1Z9 => is_list); (case k2Z9 => decide +kernel); (case k3Z9 => decide +kernel); (case k4Z9 => omega); (case k5Z9 => omega); (case k6Z9 => unfold fig; omega); (case k7Z9 => unfold fig; omega); k_whole))
  k_with "call type:type" =>
    (k_here; (with_reducible show wpAny _ _ (call (Value.type "type") [Value.bytes _ _]) _ _ _); refine call_type_of (typeIs_bytes _ _ _) (by decide +kernel) ?_)
  k_with "pyIter bytes" =>
    ((with_reducible show wpAny _ _ (pyIter (Value.bytes _ _)) (fun it s₂ => LoopAtV _ _ _ _ _ _ _ _ _ it s₂) _ _); k_here; k_bytesUnr)
  k_with "binaryOp BitOr int int" =>
    (k_here; (with_reducible show wpAny _ _ (binaryOp Operator.BitOr (Value.int (_ * 2 ^ Int.toNat 8) _) (Value.int _ _)) _ _ _); k_dflt (refine' or_byteR ?k1Z9 ?k2Z9 ?_; (case k1Z9 => omega); (case k2Z9 => omega); k_whole))
  k_with "binaryOp BitAnd int int" =>
    (k_here; (first | ((with_reducible show wpAny _ _ (binaryOp Operator.BitAnd (Value.int _ _) (Value.int 65535 _)) _ _ _); k_dflt (refine' and16R ?_)) | ((with_reducible show wpAny _ _ (binaryOp Operator.BitAnd (Value.int _ _) (Value.int 63 _)) _ _ _); k_dflt (refine' and6R ?_))))
  k_with "subscriptTail Name BinOp bytes int" =>
    (k_here; (with_reducible show wpAny _ _ (subscriptTail _ _ (Value.bytes _ _) (Value.int (_ % 64) _)) _ _ _); k_dflt (refine' b64_item ?k1Z9 ?k2Z9 ?k3Z9 ?_ ?k4Z9 ?k5Z9; (case k1Z9 => decide +kernel); (case k2Z9 => exact Int.emod_nonneg _ (by decide)); (case k3Z9 => exact Int.emod_lt_of_pos _ (by decide)); (case k4Z9 => with_unfolding_all rfl); (case k5Z9 => intro _; with_unfolding_all rfl); k_whole); intro t' k' tl')
  k_with "call type:bytes" =>
    (k_here; (with_reducible show wpAny _ _ (call (Value.type "bytes") [Value.ref _]) _ _ _); k_dflt (first
      | (refine' bytes4 ?k1Z9 ?k2Z9 ?k3Z9 ?k4Z9 ?k5Z9 ?k6Z9 ?k7Z9 ?k8Z9 ?_; (case k1Z9 => k_asm); (case k2Z9 => k_asm); (case k3Z9 => rfl); (case k4Z9 => is_list); (case k5Z9 => omega); (case k6Z9 => omega); (case k7Z9 => omega); (case k8Z9 => omega); k_whole)
      | (refine' bytes3 ?k1Z9 ?k2Z9 ?k3Z9 ?k4Z9 ?k5Z9 ?k6Z9 ?k7Z9 ?_; (case k1Z9 => k_asm); (case k2Z9 => k_asm); (case k3Z9 => rfl); (case k4Z9 => is_list); (case k5Z9 => omega); (case k6Z9 => omega); (case k7Z9 => omega); k_whole)); intro h' t' k' arr' F' N' kbaI)
  k_with "exec For Tuple Call" =>
    (k_here; (with_reducible show wpAny _ _ (exec (Stmt.For (Expr.Tuple _ _ _) (Expr.Call (Expr.Name (Str.ofString "enumerate") _) _ _ _) _ _ _) _) _ _ _); (rename Fr _ _ _ _ => lF'); (with_unfolding_all refine' For_turns lF' ?_; k_whole))
  k_with "call type:enumerate" =>
    (k_here; (with_reducible show wpAny _ _ (call (Value.type _) [Value.ref _]) (fun xv s₁ => wpAny _ _ (pyIter xv) (fun it s₂ => TurnsAt _ _ _ _ _ _ _ _ _ it s₂) _ s₁) _ _); (with_unfolding_all refine' enum_stop ?hZ9 ?FZ9 ?NZ9 ?XZ9 ?kZ9 ?cZ9 ?dZ9 ?_; (case hZ9 => with_unfolding_all rfl); (case FZ9 => k_asm); (case NZ9 => k_asm); (case XZ9 => k_asm); (case kZ9 => k_is); (case cZ9 => exact rfl); (case dZ9 => exact rfl); k_whole))
  k_with "exec For Tuple Name" =>
    (k_here; (with_reducible show wpAny _ _ (exec (Stmt.For (Expr.Tuple [Expr.Name _ _, Expr.Name _ _] _ _) (Expr.Name _ _) _ (_ :: _) _) _) _ _ _); (rename Fr _ _ _ _ => lF'); (with_unfolding_all refine' For_else lF' ?hZ9 ?xiZ9 ?xcZ9 ?hpZ9 ?_ ?hsZ9 ?hEZ9; (case hZ9 => with_unfolding_all rfl); (case xiZ9 => with_unfolding_all rfl); (case xcZ9 => with_unfolding_all rfl); (case hpZ9 => with_unfolding_all rfl); (case hsZ9 => intro _; with_unfolding_all rfl); (case hEZ9 => passes_own); k_whole))
  k_with "ktr_unf" =>
    first | exact PairsIn.nil | (apply PairsIn.cons; k_is; exact rfl; exact rfl; (k_extra "ktr_unf"))
  k_with "ElseAt" =>
    (k_here; (with_unfolding_all refine' elseAt_K ?FZ9 ?NZ9 ?XZ9 ?kZ9 ?cZ9 ?dZ9 ?pZ9 ?_; (case FZ9 => k_asm); (case NZ9 => k_asm); (case XZ9 => k_asm); (case kZ9 => k_is); (case cZ9 => exact rfl); (case dZ9 => exact rfl); (case pZ9 => (k_extra "ktr_unf")); k_whole); intro i' l1; (try k_lt l1))
  k_with "ElseRest" =>
    (with_unfolding_all first | (refine ElseRest.succ (fun it' h' tk' F' N' => ?_)) | (refine ElseRest.zero (fun h' tk' F' N' => ?_)))
  k_with "UnrEnd" =>
    (refine unrEnd_head (by assumption) (by assumption) (by k_all) ?_)
  k_with "binaryOp BitAnd int int" =>
    (k_here; (with_reducible show wpAny _ _ (binaryOp Operator.BitAnd (Value.int (32768 + _) _) (Value.int _ _)) _ _ _); (first | ((with_reducible show wpAny _ _ (binaryOp Operator.BitAnd (Value.int _ _) (Value.int 61440 _)) _ _ _); with_reducible refine mR61440 (by assumption) (by assumption) ?_) | ((with_reducible show wpAny _ _ (binaryOp Operator.BitAnd (Value.int _ _) (Value.int 2112 _)) _ _ _); with_reducible refine mR2112 (by assumption) (by assumption) ?_) | ((with_reducible show wpAny _ _ (binaryOp Operator.BitAnd (Value.int _ _) (Value.int 1032 _)) _ _ _); with_reducible refine mR1032 (by assumption) (by assumption) ?_) | ((with_reducible show wpAny _ _ (binaryOp Operator.BitAnd (Value.int _ _) (Value.int 513 _)) _ _ _); with_reducible refine mR513 (by assumption) (by assumption) ?_) | ((with_reducible show wpAny _ _ (binaryOp Operator.BitAnd (Value.int _ _) (Value.int 2048 _)) _ _ _); with_reducible refine mR2048 (by assumption) (by assumption) ?_) | ((with_reducible show wpAny _ _ (binaryOp Operator.BitAnd (Value.int _ _) (Value.int 1024 _)) _ _ _); with_reducible refine mR1024 (by assumption) (by assumption) ?_) | ((with_reducible show wpAny _ _ (binaryOp Operator.BitAnd (Value.int _ _) (Value.int 512 _)) _ _ _); with_reducible refine mR512 (by assumption) (by assumption) ?_) | ((with_reducible show wpAny _ _ (binaryOp Operator.BitAnd (Value.int _ _) (Value.int 256 _)) _ _ _); with_reducible refine mR256 (by assumption) (by assumption) ?_) | ((with_reducible show wpAny _ _ (binaryOp Operator.BitAnd (Value.int _ _) (Value.int 128 _)) _ _ _); with_reducible refine mR128 (by assumption) (by assumption) ?_) | ((with_reducible show wpAny _ _ (binaryOp Operator.BitAnd (Value.int _ _) (Value.int 64 _)) _ _ _); with_reducible refine mR64 (by assumption) (by assumption) ?_) | ((with_reducible show wpAny _ _ (binaryOp Operator.BitAnd (Value.int _ _) (Value.int 32 _)) _ _ _); with_reducible refine mR32 (by assumption) (by assumption) ?_) | ((with_reducible show wpAny _ _ (binaryOp Operator.BitAnd (Value.int _ _) (Value.int 16 _)) _ _ _); with_reducible refine mR16 (by assumption) (by assumption) ?_) | ((with_reducible show wpAny _ _ (binaryOp Operator.BitAnd (Value.int _ _) (Value.int 8 _)) _ _ _); with_reducible refine mR8 (by assumption) (by assumption) ?_) | ((with_reducible show wpAny _ _ (binaryOp Operator.BitAnd (Value.int _ _) (Value.int 4 _)) _ _ _); with_reducible refine mR4 (by assumption) (by assumption) ?_) | ((with_reducible show wpAny _ _ (binaryOp Operator.BitAnd (Value.int _ _) (Value.int 2 _)) _ _ _); with_reducible refine mR2 (by assumption) (by assumption) ?_) | ((with_reducible show wpAny _ _ (binaryOp Operator.BitAnd (Value.int _ _) (Value.int 1 _)) _ _ _); with_reducible refine mR1 (by assumption) (by assumption) ?_)); k_whole)
  k_with "call builtin:str.join" =>
    (k_here; (with_reducible show wpAny _ _ (call (Value.builtin "str.join") [Value.str _ _, Value.ref _]) _ _ _); k_dflt (refine' join10 ?k1Z9 ?k2Z9 ?k3Z9 ?k4Z9 ?k5Z9 ?k6Z9 ?k7Z9 ?k8Z9 ?k9Z9 ?k10Z9 ?k11Z9 ?k12Z9 ?_; (case k1Z9 => is_list); (case k2Z9 => rfl); (case k3Z9 => exact fmc_len _ _); (case k4Z9 => exact fmc_len _ _); (case k5Z9 => exact fmc_len _ _); (case k6Z9 => exact fmc_len _ _); (case k7Z9 => exact fmc_len _ _); (case k8Z9 => exact fmc_len _ _); (case k9Z9 => exact fmc_len _ _); (case k10Z9 => exact fmc_len _ _); (case k11Z9 => exact fmc_len _ _); (case k12Z9 => exact fmc_len _ _); k_whole); intro _ _)
  k_with "call builtin:abs" =>
    (k_here; (with_reducible show wpAny _ _ (call (Value.builtin "abs") [Value.int _ _]) _ _ _); (with_reducible refine abs_nn (by omega) ?_); intro _ _)
  k_with "call builtin:divmod" =>
    (k_here; (with_reducible show wpAny _ _ (call (Value.builtin "divmod") [Value.int _ _, Value.int 16 _]) _ _ _); k_dflt (refine' divmod16 ?k1Z9 ?k2Z9 ?k3Z9 ?k4Z9 ?_; (case k1Z9 => k_asm); (case k2Z9 => k_asm); (case k3Z9 => omega); (case k4Z9 => omega); k_whole); intro d' h' x' y' F' N' l1; (try k_lt l1); (try k_sweep))
  k_with "exec While" =>
    (k_here; (with_reducible show wpAny _ _ (exec (Stmt.While (Expr.Name _ _) _ _ _) _) _ _ _); k_dflt (refine whl_start 100 ?_))
  k_with "WhlIf" =>
    (first | (refine WhlIf.yes (bne_iff_ne.mpr (by omega)) ?_) | (refine WhlIf.no (bne_eq_false_iff_eq.mpr (by omega)) ?_))
  k_with "subscriptTail" =>
    (k_here; (with_reducible show wpAny _ _ (subscriptTail _ (Expr.Slice (some _) (some _) none _) (Value.bytes _ _) (Value.ref _)) _ _ _); (with_reducible rename Fr _ _ _ _ => F'); (with_reducible rename News _ _ _ _ => N'); (refine ap_slice (s := ⟨_, _, _, _, _⟩) F' N' (by decide +kernel) (by constructor) (by constructor) (by omega) (by omega) ?_); intro _ _ _ _ _ _ kbcK)
  k_with "binaryOp FloorDiv int int" =>
    (k_here; (with_reducible show wpAny _ _ (binaryOp Operator.FloorDiv (Value.int _ _) (Value.int _ _)) _ _ _); with_reducible refine fdivR (by decide) (by decide) (by omega) (by omega) ?_)
  k_with "binaryOp Mod int int" =>
    (k_here; (with_reducible show wpAny _ _ (binaryOp Operator.Mod (Value.int _ _) (Value.int _ _)) _ _ _); with_reducible refine fmodR (by decide) ?_)
  k_with "eval ListComp" =>
    (k_here; (with_reducible show wpAny _ _ (eval (Expr.ListComp (Expr.Call (Expr.Name (Str.ofString "chr") _) _ _ _) _ _ _) _) _ _ _); k_dflt (refine ListComp_B (_F₀ := by k_asm) (by rfl) (by decide) (by rfl) (by decide) (by rfl) ?_ (by intro _; rfl)))
  k_with "SrcB" =>
    (k_here; k_dflt (refine SrcB.of (by rfl) (by k_asm) (by k_asm) (by assumption) (Nat.le_of_ble_eq_true rfl) ?_; intro g'))
  k_with "CompRest" =>
    (with_unfolding_all (refine LCg.CompRest.succ ?_; intro v' I' oI' C' oC' D' m' h' tk' E' hv' hC' hx' F' N' off' ne'; (obtain ⟨t9', c9', hc9', hv9', hl9', hu9'⟩ := hv'); (have hc8' := Option.some.inj hc9'); clear hc9'; subst hc8'; subst hv9'; (try simp only [LCg.Off3, and_true] at off')))
  k_with "call builtin:chr" =>
    (k_here; (with_reducible show wpAny _ _ (call (Value.builtin "chr") [Value.int _ _]) _ _ _); with_reducible refine chr_of_range (by omega) (by omega) ?_)
  k_with "call builtin:str.join" =>
    (k_here; (with_reducible show wpAny _ _ (call (Value.builtin "str.join") [Value.str _ _, Value.ref _]) _ _ _); k_dflt (first
      | (refine' join4 ?k1Z9 ?k2Z9 ?k3Z9 ?k4Z9 ?k5Z9 ?k6Z9 ?_; (case k1Z9 => is_list); (case k2Z9 => rfl); (case k3Z9 => exact Nat.le_of_ble_eq_true rfl); (case k4Z9 => exact Nat.le_of_ble_eq_true rfl); (case k5Z9 => exact Nat.le_of_ble_eq_true rfl); (case k6Z9 => exact Nat.le_of_ble_eq_true rfl); k_whole)
      | (refine' join3 ?k1Z9 ?k2Z9 ?k3Z9 ?k4Z9 ?k5Z9 ?_; (case k1Z9 => is_list); (case k2Z9 => rfl); (case k3Z9 => exact Nat.le_of_ble_eq_true rfl); (case k4Z9 => exact Nat.le_of_ble_eq_true rfl); (case k5Z9 => exact Nat.le_of_ble_eq_true rfl); k_whole)
      | (refine' join2 ?k1Z9 ?k2Z9 ?k3Z9 ?k4Z9 ?_; (case k1Z9 => is_list); (case k2Z9 => rfl); (case k3Z9 => exact Nat.le_of_ble_eq_true rfl); (case k4Z9 => exact Nat.le_of_ble_eq_true rfl); k_whole)
      | (refine' join1 ?k1Z9 ?k2Z9 ?k3Z9 ?_; (case k1Z9 => is_list); (case k2Z9 => rfl); (case k3Z9 => exact Nat.le_of_ble_eq_true rfl); k_whole)
      | (refine' join0 ?k1Z9 ?k2Z9 ?_; (case k1Z9 => is_list); (case k2Z9 => rfl); k_whole)); intro _ _)
  k_with "call builtin:len" =>
    (k_here; (first
      | ((with_reducible show wpAny _ _ (call (Value.builtin "len") [Value.str (Txt.join _ [_]) _]) _ _ _); k_dflt (refine len_j 1 rfl (by decide) ?_))
      | ((with_reducible show wpAny _ _ (call (Value.builtin "len") [Value.str (Txt.join _ [_, _]) _]) _ _ _); k_dflt (refine len_j 2 rfl (by decide) ?_))
      | ((with_reducible show wpAny _ _ (call (Value.builtin "len") [Value.str (Txt.join _ [_, _, _]) _]) _ _ _); k_dflt (refine len_j 3 rfl (by decide) ?_))))
  k_with "call ref" =>
    (k_here; (with_reducible show wpAny _ _ (call (Value.ref 129) [Value.int _ _, Value.ref _]) _ _ _); k_dflt (refine' Claim.useI (number_ok _ _ _ _ _ _ _ _ _ _ ?kBZ9 ?k1Z9 ?k2Z9 ?k3Z9) ?b1Z9 ?b2Z9 ?b3Z9 ?b4Z9 ?b5Z9 ?b6Z9 ?b7Z9 ?b8Z9 ?b9Z9 ?_; (case b1Z9 => k_asm); (case b2Z9 => k_asm); (case b3Z9 => k_asm); (case b4Z9 => k_asm); (case b5Z9 => k_asm); (case b6Z9 => first | exact rfl | assumption); (case b7Z9 => first | is_list | exact isL (by k_asm) (by k_mem)); (case b8Z9 => first | exact room_of (by assumption) (by decide) | ktr_room); (case b9Z9 => first | exact units_of (by assumption) (by decide) | ktr_units); (case kBZ9 => first | assumption | decide); (case k1Z9 => first | assumption | exact zero_is (by assumption) | exact ⟨by assumption, by assumption⟩ | exact ⟨by decide, by decide⟩ | omega); (case k2Z9 => first | assumption | exact zero_is (by assumption) | exact ⟨by assumption, by assumption⟩ | exact ⟨by decide, by decide⟩ | omega); (case k3Z9 => first | assumption | exact zero_is (by assumption) | exact ⟨by assumption, by assumption⟩ | exact ⟨by decide, by decide⟩ | omega); k_whole); intro t' h' tk' F' N'; (try k_sweep))
  k_with "call ref" =>
    (k_here; (with_reducible show wpAny _ _ (call (Value.ref 139) [Value.int _ _, Value.int _ _]) _ _ _); k_dflt (refine' Claim.useS (dif0_ok _ _ _ _ _ _ _ ?kBZ9 ?k1Z9) ?b1Z9 ?b2Z9 ?b3Z9 ?b4Z9 ?b5Z9 ?b6Z9 ?b7Z9 ?b8Z9 ?b9Z9 ?_; (case b1Z9 => k_asm); (case b2Z9 => k_asm); (case b3Z9 => k_asm); (case b4Z9 => k_asm); (case b5Z9 => k_asm); (case b6Z9 => first | exact rfl | assumption); (case b7Z9 => trivial); (case b8Z9 => first | exact room_of (by assumption) (by decide) | ktr_room); (case b9Z9 => first | exact units_of (by assumption) (by decide) | ktr_units); (case kBZ9 => first | assumption | decide); (case k1Z9 => omega); k_whole); intro t' h' tk' F' N'; (try k_sweep))
  k_with "call ref" =>
    (k_here; (with_reducible show wpAny _ _ (call (Value.ref 139) [Value.int _ _, Value.int _ _]) _ _ _); k_dflt (refine' Claim.useS (difd_ok _ _ _ _ _ _ _ _ ?kBZ9 ?keZ9 ?k1Z9 ?k2Z9 ?k3Z9) ?b1Z9 ?b2Z9 ?b3Z9 ?b4Z9 ?b5Z9 ?b6Z9 ?b7Z9 ?b8Z9 ?b9Z9 ?_; (case b1Z9 => k_asm); (case b2Z9 => k_asm); (case b3Z9 => k_asm); (case b4Z9 => k_asm); (case b5Z9 => k_asm); (case b6Z9 => first | exact rfl | assumption); (case b7Z9 => trivial); (case b8Z9 => first | exact room_of (by assumption) (by decide) | ktr_room); (case b9Z9 => first | exact units_of (by assumption) (by decide) | ktr_units); (case keZ9 => assumption); (case kBZ9 => first | assumption | decide); (case k1Z9 => first | assumption | omega); (case k2Z9 => first | assumption | omega); (case k3Z9 => first | assumption | omega); k_whole); intro t' h' tk' F' N'; (try k_sweep))
  k_with "call ref" =>
    (k_here; (with_reducible show wpAny _ _ (call (Value.ref 139) [Value.int _ _, Value.int _ _]) _ _ _); k_dflt (refine' Claim.useS (num_ok _ _ _ _ _ _ _ ?kBZ9 ?k1Z9 ?k2Z9 ?k3Z9) ?b1Z9 ?b2Z9 ?b3Z9 ?b4Z9 ?b5Z9 ?b6Z9 ?b7Z9 ?b8Z9 ?b9Z9 ?_; (case b1Z9 => k_asm); (case b2Z9 => k_asm); (case b3Z9 => k_asm); (case b4Z9 => k_asm); (case b5Z9 => k_asm); (case b6Z9 => first | exact rfl | assumption); (case b7Z9 => trivial); (case b8Z9 => first | exact room_of (by assumption) (by decide) | ktr_room); (case b9Z9 => first | exact units_of (by assumption) (by decide) | ktr_units); (case kBZ9 => first | assumption | decide); (case k1Z9 => first | assumption | exact zero_is (by assumption) | exact ⟨by assumption, by assumption⟩ | exact ⟨by decide, by decide⟩ | omega); (case k2Z9 => first | assumption | exact zero_is (by assumption) | exact ⟨by assumption, by assumption⟩ | exact ⟨by decide, by decide⟩ | omega); (case k3Z9 => first | assumption | exact zero_is (by assumption) | exact ⟨by assumption, by assumption⟩ | exact ⟨by decide, by decide⟩ | omega); k_whole); intro t' h' tk' F' N'; (try k_sweep))
  k_with "call ref" =>
    (k_here; (with_reducible show wpAny _ _ (call (Value.ref 117) [Value.int _ _, Value.ref _]) _ _ _); k_dflt (refine' Claim.useS (text_ok _ _ _ _ _ _ _ _ _ _ ?kBZ9 ?k1Z9 ?k2Z9 ?k3Z9) ?b1Z9 ?b2Z9 ?b3Z9 ?b4Z9 ?b5Z9 ?b6Z9 ?b7Z9 ?b8Z9 ?b9Z9 ?_; (case b1Z9 => k_asm); (case b2Z9 => k_asm); (case b3Z9 => k_asm); (case b4Z9 => k_asm); (case b5Z9 => k_asm); (case b6Z9 => first | exact rfl | assumption); (case b7Z9 => first | is_list | exact isL (by k_asm) (by k_mem)); (case b8Z9 => first | exact room_of (by assumption) (by decide) | ktr_room); (case b9Z9 => first | exact units_of (by assumption) (by decide) | ktr_units); (case kBZ9 => first | assumption | decide); (case k1Z9 => first | assumption | exact zero_is (by assumption) | exact ⟨by assumption, by assumption⟩ | exact ⟨by decide, by decide⟩ | omega); (case k2Z9 => first | assumption | exact zero_is (by assumption) | exact ⟨by assumption, by assumption⟩ | exact ⟨by decide, by decide⟩ | omega); (case k3Z9 => first | assumption | exact zero_is (by assumption) | exact ⟨by assumption, by assumption⟩ | exact ⟨by decide, by decide⟩ | omega); k_whole); intro t' h' tk' F' N'; (try k_sweep))
  k_with "call ref" =>
    (k_here; (with_reducible show wpAny _ _ (call (Value.ref 122) [Value.int _ _, Value.str _ _]) _ _ _); k_dflt (refine' Claim.useL (figs_ok _ _ _ _ _ _ _ ?kBZ9 ?k1Z9 ?k2Z9 ?k3Z9) ?b1Z9 ?b2Z9 ?b3Z9 ?b4Z9 ?b5Z9 ?b6Z9 ?b7Z9 ?b8Z9 ?b9Z9 ?_; (case b1Z9 => k_asm); (case b2Z9 => k_asm); (case b3Z9 => k_asm); (case b4Z9 => k_asm); (case b5Z9 => k_asm); (case b6Z9 => first | exact rfl | assumption); (case b7Z9 => trivial); (case b8Z9 => first | exact room_of (by assumption) (by decide) | ktr_room); (case b9Z9 => first | exact units_of (by assumption) (by decide) | ktr_units); (case kBZ9 => first | assumption | decide); (case k1Z9 => first | assumption | exact zero_is (by assumption) | exact ⟨by assumption, by assumption⟩ | exact ⟨by decide, by decide⟩ | omega); (case k2Z9 => first | assumption | exact zero_is (by assumption) | exact ⟨by assumption, by assumption⟩ | exact ⟨by decide, by decide⟩ | omega); (case k3Z9 => first | assumption | exact zero_is (by assumption) | exact ⟨by assumption, by assumption⟩ | exact ⟨by decide, by decide⟩ | omega); k_whole); intro l' ta' tb' tc' n' h' tk' F' N' l1; (try simp only [AllNe, and_true] at l1); (try k_sweep))
  k_with "call ref" =>
    (k_here; (with_reducible show wpAny _ _ (call (Value.ref 134) [Value.int _ _]) _ _ _); k_dflt (refine' Claim.useS (four_ok _ _ _ ?k1Z9 ?k2Z9) ?b1Z9 ?b2Z9 ?b3Z9 ?b4Z9 ?b5Z9 ?b6Z9 ?b7Z9 ?b8Z9 ?b9Z9 ?_; (case b1Z9 => k_asm); (case b2Z9 => k_asm); (case b3Z9 => k_asm); (case b4Z9 => k_asm); (case b5Z9 => k_asm); (case b6Z9 => first | exact rfl | assumption); (case b7Z9 => trivial); (case b8Z9 => first | exact room_of (by assumption) (by decide) | ktr_room); (case b9Z9 => first | exact units_of (by assumption) (by decide) | ktr_units); (case k1Z9 => exact dif_lo (by assumption) (by assumption)); (case k2Z9 => exact dif_hi (by assumption) (by assumption) (by assumption)); k_whole); intro t' h' tk' F' N'; (try k_sweep))
  k_with "compareOp NotEq str str" =>
    (k_here; (with_reducible show wpAny _ _ (compareOp CmpOp.NotEq (Value.str _ _) (Value.str _ _)) _ _ _); with_reducible refine ne_same (by first | rfl | exact told (by assumption) (by assumption) (by assumption) (by assumption) (by assumption) | exact told0 (by assumption) (by assumption)) ?_)
  k_with "eval ListComp" =>
    (k_here; (with_reducible show wpAny _ _ (eval (Expr.ListComp (Expr.Name _ _) _ _ _) _) _ _ _); k_dflt (refine ListComp_D (_F₀ := by k_asm) (by rfl) (by decide) (by rfl) (by decide) (by rfl) (by intro _; rfl) (by decide) ?_ (by intro _; rfl)))
  k_with "SrcD" =>
    (k_here; k_dflt (refine SrcD.of (by rfl) (by k_asm) (by k_asm) (by assumption) (by omega) (by omega) ?_; intro g' ys' hys'))
  k_with "call type:range" =>
    (k_here; (with_reducible show wpAny _ _ (call (Value.type "range") [_, _, _]) _ _ _); k_dflt (refine' rangeD ?k1Z9 ?k2Z9 ?_; (case k1Z9 => k_asm); (case k2Z9 => k_asm); k_whole); intro r' h' tk' t1' t2' t3' hr' F' N'; (try k_sweep))
  k_with "binaryOp Add ref ref" =>
    (k_here; (with_reducible show wpAny _ _ (binaryOp Operator.Add (Value.ref _) (Value.ref _)) _ _ _); k_dflt (refine' addI ?k1Z9 ?k2Z9 ?k3Z9 ?k4Z9 ?k5Z9 ?k6Z9 ?k7Z9 ?_; (case k1Z9 => k_asm); (case k2Z9 => k_asm); (case k3Z9 => is_list); (case k4Z9 => is_list); (case k5Z9 => first | assumption | exact .cons _ _ (.cons _ _ .nil) | exact .cons _ _ .nil); (case k6Z9 => first | assumption | exact .cons _ _ (.cons _ _ .nil) | exact .cons _ _ .nil); (case k7Z9 => simp only [List.length_append, List.length_cons, List.length_nil, down_length]; omega); k_whole); intro d' h' vs' F' N' l1 hi'; (try k_lt l1); (try k_sweep))
  k_with "subscriptTail Name Slice ref ref" =>
    (k_here; (with_reducible show wpAny _ _ (subscriptTail _ (Expr.Slice (some _) none none _) (Value.ref _) (Value.ref _)) _ _ _); (with_reducible rename Fr _ _ _ _ => F'); (with_reducible rename News _ _ _ _ => N'); k_dflt (refine' lastI (s := ⟨_, _, _, _, _⟩) F' N' ?k1Z9 ?k2Z9 ?k3Z9 ?k4Z9 ?k5Z9 ?k6Z9 ?_ ?k7Z9 ?k8Z9; (case k1Z9 => is_list); (case k2Z9 => constructor); (case k3Z9 => constructor); (case k4Z9 => first | assumption | exact .cons _ _ (.cons _ _ .nil) | exact .cons _ _ .nil); (case k5Z9 => assumption); (case k6Z9 => omega); (case k7Z9 => with_unfolding_all rfl); (case k8Z9 => intro _; with_unfolding_all rfl); k_whole); intro d' ws' h' F' N' l1 hi'; (try k_lt l1))
  k_with "call builtin:sorted" =>
    (k_here; (with_reducible show wpAny _ _ (call (Value.builtin "sorted") [Value.ref _]) _ _ _); (with_reducible rename Spr _ _ _ _ _ => hSp'); k_dflt (refine' sorted3s hSp' ?k1Z9 ?k2Z9 ?k3Z9 ?_; (case k1Z9 => k_asm); (case k2Z9 => k_asm); (case k3Z9 => is_list); k_whole); intro d' p' q' r' tp' tq' tr' c' h' F' N' l1 hp1' hp2' hp3' hp4' hp5' hp6' hp7'; (try k_lt l1); (try k_sweep))
  k_with "exec For Name BinOp" =>
    (k_here; (rename Fr _ _ _ _ => lF'); (with_unfolding_all refine' For_turns lF' ?_; k_whole))
  k_with "exec If Name" =>
    (k_here; (with_reducible show wpAny _ _ (exec (Stmt.If (Expr.Name (Str.ofString "spread") _) _ _ _) _) _ _ _); refine Stop.un ?_)
  k_with "pyIter ref" =>
    (k_here; (with_reducible show wpAny _ _ (pyIter (Value.ref _)) (fun it s₂ => TurnsAt _ _ _ _ _ _ _ _ _ it s₂) _ _); (with_unfolding_all refine' list_stop ?hZ9 ?FZ9 ?NZ9 ?mZ9 ?cZ9 ?dZ9 ?_; (case hZ9 => with_unfolding_all rfl); (case FZ9 => k_asm); (case NZ9 => k_asm); (case mZ9 => k_mem); (case cZ9 => exact rfl); (case dZ9 => exact rfl); k_whole))
  k_with "subscriptTail Name Constant ref int" =>
    (k_here; (with_reducible show wpAny _ _ (subscriptTail _ _ (Value.ref _) (Value.int _ _)) _ _ _); k_dflt (refine' item_litK ?k1Z9 ?k2Z9 ?k3Z9 ?k4Z9 ?_ ?k6Z9; (case k1Z9 => is_list); (case k2Z9 => decide); (case k3Z9 => decide); (case k4Z9 => rfl); (case k6Z9 => with_unfolding_all rfl); k_whole))
  k_with "truthy int" =>
    (k_here; (first | (with_reducible refine truthy_nz (Int.ne_of_gt (by assumption)) ?_) | (with_reducible refine truthy_z (by assumption) ?_)))
  trivial
example : PySem.Challenge.rw_op0025_01 = PySem.Challenge.rw_op0025_01 ∧ hd.heap_39 = hd.heap_39 := by k_fill; exact ⟨rfl, rfl⟩



theorem chain_ok (w : World) (B a b c : Int) (tB ta tb tc : Tok) (l : Addr) (hB : B = 8 ∨ B = 16 ∨ B = 64) (ha : 0 ≤ a ∧ a < B) (hb : 0 ≤ b ∧ b < B) (hc : 0 ≤ c ∧ c < B) :
    Claim w 144 8 [.int B tB, .ref l] [] (fun h => h.IsList l [Value.int a ta, Value.int b tb, Value.int c tc].toArray) (fun _ _ v => v = .bool true) := by
  unfold Claim
  intro prog p loose mean mg mb dp un gd cn cs a' ccd cl outer A₀ base h₀ L m s Q E B0 F X T hk hpre hd hu hret
  obtain ⟨hBB0, hBB1, hB1, hB2⟩ := bb_is hB
  refine wpAny_call ?_
  k_dflt (k_extra "cell_enter")
  k_steps
  refine Stop.go ?_
  have hSp := mkSpr ha hb hc (by assumption) (by assumption) (by assumption) (by assumption)
  repeat (rename _ = a ∨ _ = b ∨ _ = c => hx; clear hx)
  repeat (rename a ≤ _ ∧ b ≤ _ ∧ c ≤ _ => hx; clear hx)
  repeat (rename _ ≤ a ∧ _ ≤ b ∧ _ ≤ c => hx; clear hx)
  obtain ⟨hS0, hS1⟩ := hSp.range
  refine if_spr (B := B) (tB := tB) (x := txt B a b c) (by k_asm) ?_ ?_
  · refine wpAny_If ?_
    k_steps
    · exact ⟨rfl, _, _, _, _, _, false, _, _, _, rfl, (by k_asm), news_one (by k_asm) (by k_mem), hi', List.cons_ne_nil _ _, (by simp only [List.length_append, List.length_cons, List.length_nil, down_length]; omega), stps_small hB hSp (by assumption) (by assumption), mid_map rfl rfl rfl⟩
    · exact ⟨rfl, _, _, _, _, _, false, _, _, _, rfl, (by k_asm), news_one (by k_asm) (by k_mem), hi', List.cons_ne_nil _ _, (by simp only [List.length_append, List.length_cons, List.length_nil, down_length]; omega), stps_great hB hSp (by assumption) (by assumption), mid_map rfl rfl rfl⟩
    · exact ⟨rfl, _, _, _, [_, _], [0, 0], true, _, _, _, rfl, (by k_asm), news_one (by k_asm) (by k_mem), .cons _ _ (.cons _ _ .nil), List.cons_ne_nil _ _, by decide, stps_nought hB hSp (by assumption), mid_map rfl rfl rfl⟩
  · rintro f9 s9 ⟨rfl, h9, tk9, l9, vs9, ns9, z9, tx9, m9, m8, rfl, F9, N9, hi9, hne9, hlen9, hst9, rfl⟩
    clear hSp hS0 hS1
    (try k_sweep)
    dsimp only
    k_steps
    refine Stop.go ?_
    intro I hI
    (rename IntsAre _ (_ ++ _) => hIn)
    refine items_subK (mem_one (List.Mem.head _)) ?_
    refine items_ind (Gch B z9 tB _ _) (fun m9 n9 g9 => ?_) (fun v9 r9 m9 n9 g9 => ?_) _ _ _ ⟨_, _, _, _, hIn, hst9, rfl, ch_map rfl rfl⟩
    · obtain ⟨m1, x1, tx1, ns1, hi1, hs1, rfl, rfl⟩ := g9
      intro h9 tk9 F9 N9
      dsimp only
      k_steps
      exact hret _ _ _ (Fr.keep (by k_asm)) rfl
    · obtain ⟨m1, x1, tx1, ns1, hi1, hs1, rfl, rfl⟩ := g9
      cases hi1 with
      | cons d td hi2 =>
        obtain ⟨hd0, hd1, ⟨f, g, h, rfl, hSp2⟩, hs2⟩ := hs1
        clear hIn hi9 hst9 hne9 hlen9
        have hf := hSp2.1
        have hg := hSp2.2.1
        have hh := hSp2.2.2.1
        cases z9
        · replace hd0 : 0 < d := hd0
          obtain ⟨hu1, hu2, hu3⟩ := due_is hB hd0 hd1
          obtain ⟨ht1, ht2, ht3⟩ := told_is hB hd0 hd1
          obtain ⟨hH0, hH1⟩ := high_is hB hd0 hd1
          intro h9 tk9 F9
          ktu_objs
          k_steps
          all_goals exact ⟨[(_, _)], mem_one (by k_mem), ⟨_, _, _, _, hi2, stps_next (by omega) hd0 hd1 hs2, rfl, ch_map rfl rfl⟩⟩
        · replace hd0 : d = 0 := hd0
          intro h9 tk9 F9
          ktu_objs
          k_steps
          all_goals exact ⟨[(_, _)], mem_one (by k_mem), ⟨_, _, _, _, hi2, stps_zero (by omega) hd0 hs2, rfl, ch_map rfl rfl⟩⟩
end
section
example : True := by
  w_top off
  trivial
section
variable {w : World} {f : Addr} {d : Nat} {vs : List Value} {kw : List (Str × Value)} {pre : Heap → Prop} {prog p : Program} {loose : List Str} {mean : ExcName → Option Value} {mg mb : Str → Option Value} {dp un : Nat} {gd : Option (List Code)} {cn : Str} {cs : Scope} {a : Addr} {ccd : Value} {cl : List (Str × Addr)} {outer : List Env} {A₀ : Around} {base h₀ : Heap} {L : Addr} {m : Str → Option Value} {s : Shared} {Q E : Value → Shared → Prop} {news : List (Addr × Obj)}
/-- a call that brings True -/
theorem Claim.useT (C : Claim w f d vs kw pre (fun _ _ v => v = .bool true)) (B : Below A₀ base outer h₀) (F : Fr h₀ L s.heap m) (X : (hd.heap_39 w.params).In h₀) (N : News h₀ L s.heap news) (T : Top p loose mean mg mb h₀) (hk : cs.kind = .function) (hp : pre s.heap) (hd : dp + d < recursionLimit) (hu : un + 8 * d < cLine)
    (ret : ∀ h' tk', Fr h₀ L h' m → News h₀ L h' news → Q (.bool true) { s with heap := h', toks := tk' }) :
    wpAny (model prog w) (ktrTop dp un gd cn cs L a ccd cl outer) (call (.ref f) vs kw) Q E s :=
  C.use B F X N T hk hp hd hu fun v h' tk' F' N' e => by subst e; exact ret h' tk' F' N'
end
theorem base_pos {B : Int} (hB : B = 8 ∨ B = 16 ∨ B = 64) : 0 < B := by rcases hB with rfl | rfl | rfl <;> decide
theorem fig_is {B : Int} (hB : B = 8 ∨ B = 16 ∨ B = 64) (a : Int) : 0 ≤ a % B ∧ a % B < B := ⟨Int.emod_nonneg _ (Int.ne_of_gt (base_pos hB)), Int.emod_lt_of_pos _ (base_pos hB)⟩
theorem chainm_ok (w : World) (B : Int) (tB : Tok) (l : Addr) (vs : List Value) (ms : List Int) (hB : B = 8 ∨ B = 16 ∨ B = 64) (hi : IntsAre vs (List.map (fun k' => k' % B) ms)) (hm : ms.length = 3) :
    Claim w 144 8 [.int B tB, .ref l] [] (fun h => h.IsList l vs.toArray) (fun _ _ v => v = .bool true) := by
  match ms, hm with
  | [a, b, c], _ =>
    have hi' : IntsAre vs [a % B, b % B, c % B] := hi
    cases hi' with
    | cons _ ta h1 => cases h1 with
      | cons _ tb h2 => cases h2 with
        | cons _ tc h3 => cases h3; exact chain_ok w B _ _ _ tB ta tb tc l hB (fig_is hB a) (fig_is hB b) (fig_is hB c)
theorem isLst {h₀ h : Heap} {L l : Addr} {vs : List Value} {news : List (Addr × Obj)} (N : News h₀ L h news) (hm : (l, LCg.lst vs) ∈ news) : h.IsList l vs.toArray := ⟨_, (N _ hm).1, rfl, _, rfl⟩
end
section
example : True := by
  w_top off
  k_with_none
  k_with "binaryOp Mod int int" =>
    (k_here; (with_reducible show wpAny _ _ (binaryOp Operator.Mod (Value.int _ _) (Value.int _ _)) _ _ _); with_reducible refine fmodR (base_pos (by assumption)) ?_)
  k_with "call ref" =>
    (k_here; (with_reducible show wpAny _ _ (call (Value.ref 144) [Value.int _ _, Value.ref _]) _ _ _); k_dflt (refine' Claim.useT (chainm_ok _ _ _ _ _ _ ?jBZ9 ?j1Z9 ?j2Z9) ?b1Z9 ?b2Z9 ?b3Z9 ?b4Z9 ?b5Z9 ?b6Z9 ?b7Z9 ?b8Z9 ?b9Z9 ?_; (case b1Z9 => k_asm); (case b2Z9 => k_asm); (case b3Z9 => k_asm); (case b4Z9 => k_asm); (case b5Z9 => k_asm); (case b6Z9 => first | exact rfl | assumption); (case b7Z9 => first | exact isLst (by k_asm) (by k_mem) | is_list | exact isL (by k_asm) (by k_mem)); (case jBZ9 => assumption); (case j1Z9 => assumption); (case j2Z9 => first | rfl | (simp only [List.length_take, List.length_append, List.length_cons, List.length_nil]; omega)); (case b8Z9 => ktr_room); (case b9Z9 => ktr_units); k_whole); intro h' tk' F' N'; (replace N' := news_tail N'); (try k_sweep))
  k_with "binaryOp Add ref ref" =>
    (k_here; (with_reducible show wpAny _ _ (binaryOp Operator.Add (Value.ref _) (Value.ref _)) _ _ _); k_dflt (refine' addI ?k1Z9 ?k2Z9 ?k3Z9 ?k4Z9 ?k5Z9 ?k6Z9 ?k7Z9 ?_; (case k1Z9 => k_asm); (case k2Z9 => k_asm); (case k3Z9 => is_list); (case k4Z9 => is_list); (case k5Z9 => first | assumption | exact .cons _ _ (.cons _ _ .nil)); (case k6Z9 => first | assumption | exact .cons _ _ (.cons _ _ .nil)); (case k7Z9 => simp only [List.length_append, List.length_cons, List.length_nil]; omega); k_whole); intro d' h' vs' F' N' l1 hi'; (try k_lt l1); (try k_sweep))
  k_with "subscriptTail BinOp" =>
    (k_here; walk_at "last subscriptTail")
  k_with "ItemsRest" =>
    (k_here; refine Stop.un ?_)
  trivial
/-- the bases to come -/
inductive Bas : List Value → Prop
  | nil : Bas []
  | cons (B : Int) (t : Tok) {r : List Value} : (B = 8 ∨ B = 16 ∨ B = 64) → Bas r → Bas (.int B t :: r)
/-- between the turns of the bases: the starts, and the cell of the base -/
def GL (ls c : Addr) (L0 : List (Addr × Obj)) (vs : List Value) (m' : Str → Option Value) (n' : List (Addr × Obj)) : Prop :=
  ∃ (m₁ : Str → Option Value) (o : Obj) (cv : Option Value), Bas vs ∧ o.data = .cell cv ∧ n' = (c, o) :: L0 ∧ m' = (fun y => if y = Str.ofString "starts" then some (.ref ls) else m₁ y)
theorem gl_map {l : Addr} {m' : Str → Option Value} (h : m' (Str.ofString "starts") = some (.ref l)) : m' = (fun y => if y = Str.ofString "starts" then some (.ref l) else m' y) := by
  funext y
  by_cases e : y = Str.ofString "starts"
  · subst e; rw [if_pos rfl]; exact h
  · rw [if_neg e]
theorem mem3 {x y z : Addr × Obj} {n' : List (Addr × Obj)} (h1 : x ∈ n') (h2 : y ∈ n') (h3 : z ∈ n') : ∀ p ∈ [x, y, z], p ∈ n' := by
  intro p hp
  rcases List.mem_cons.mp hp with rfl | hp
  · exact h1
  rcases List.mem_cons.mp hp with rfl | hp
  · exact h2
  rw [List.mem_singleton.mp hp]
  exact h3
theorem mem4 {x y z u : Addr × Obj} {n' : List (Addr × Obj)} (h1 : x ∈ n') (h2 : y ∈ n') (h3 : z ∈ n') (h4 : u ∈ n') : ∀ p ∈ [x, y, z, u], p ∈ n' := by
  intro p hp
  rcases List.mem_cons.mp hp with rfl | hp
  · exact h1
  exact mem3 h2 h3 h4 p hp
theorem mem5 {x y z u v : Addr × Obj} {n' : List (Addr × Obj)} (h0 : v ∈ n') (h1 : x ∈ n') (h2 : y ∈ n') (h3 : z ∈ n') (h4 : u ∈ n') : ∀ p ∈ [v, x, y, z, u], p ∈ n' := by
  intro p hp
  rcases List.mem_cons.mp hp with rfl | hp
  · exact h0
  exact mem4 h1 h2 h3 h4 p hp
theorem news_tail {h₀ h : Heap} {L : Addr} {x : Addr × Obj} {n : List (Addr × Obj)} (N : News h₀ L h (x :: n)) : News h₀ L h n := fun p hp => N p (.tail _ hp)
theorem law_ok : PySem.Challenge.rw_op0025_01.Holds := hd (by
  k_go0; (all_goals try k_fold); k_steps
  · refine Stop.go ?_
    refine items_subK (mem5 (.tail _ (.tail _ (.tail _ (.tail _ (.tail _ (.tail _ (.head _))))))) (.head _) (.tail _ (.head _)) (.tail _ (.tail _ (.tail _ (.tail _ (.head _))))) (.tail _ (.tail _ (.tail _ (.tail _ (.tail _ (.head _))))))) ?_
    refine items_ind (GL _ _ [_, _, _, _]) (fun m9 n9 g9 => ?_) (fun v9 r9 m9 n9 g9 => ?_) _ _ _ ⟨_, _, _, .cons _ _ (by decide) (.cons _ _ (by decide) (.cons _ _ (by decide) .nil)), (by assumption), rfl, gl_map rfl⟩
    · obtain ⟨m1, o, cv, hb, ho, rfl, rfl⟩ := g9
      intro h9 tk9 F9 N9
      dsimp only
      k_steps
    ·
      obtain ⟨m1, o, cv, hb, ho, rfl, rfl⟩ := g9
      cases hb with
      | cons B tB hB hr =>
        intro h9 tk9 F9
        ktu_objs
        k_steps
        exact ⟨_, mem5 (by k_mem) (by k_mem) (by k_mem) (by k_mem) (by k_mem), ⟨_, _, _, hr, by first | assumption | rfl, rfl, gl_map rfl⟩⟩
  · refine Stop.go ?_
    refine items_subK (mem4 (.tail _ (.tail _ (.tail _ (.head _)))) (.head _) (.tail _ (.head _)) (.tail _ (.tail _ (.head _)))) ?_
    refine items_ind (GL _ _ [_, _, _]) (fun m9 n9 g9 => ?_) (fun v9 r9 m9 n9 g9 => ?_) _ _ _ ⟨_, _, _, .cons _ _ (by decide) (.cons _ _ (by decide) (.cons _ _ (by decide) .nil)), (by assumption), rfl, gl_map rfl⟩
    · obtain ⟨m1, o, cv, hb, ho, rfl, rfl⟩ := g9
      intro h9 tk9 F9 N9
      dsimp only
      k_steps
    ·
      obtain ⟨m1, o, cv, hb, ho, rfl, rfl⟩ := g9
      cases hb with
      | cons B tB hB hr =>
        intro h9 tk9 F9
        ktu_objs
        k_steps
        exact ⟨_, mem4 (by k_mem) (by k_mem) (by k_mem) (by k_mem), ⟨_, _, _, hr, by first | assumption | rfl, rfl, gl_map rfl⟩⟩
  )
end
end Mine
theorem PySem.Challenge.cw_op0025_01_holds : PySem.Challenge.rw_op0025_01.Holds :=
  Mine.law_ok
