import PyProof.Rows.All
import Wide.All
import OpenK.AllK
import Wide.FinOn
import Lean
import PySem.Challenge.RW_ta0016_01
set_option Elab.async false
/-! ## TopA -/
section
open PySem PySem.W PyProof.Rows
namespace Mine
set_option maxRecDepth 100000 in
set_option maxHeartbeats 8000000 in
open_top hd for PySem.Challenge.rw_ta0016_01
end Mine
end

/-! ## Base -/
section
open PySem PySem.W PySem.Calls PyProof.Rows
set_option maxRecDepth 100000
namespace Mine

noncomputable abbrev loose0 : List Str := looseW hd.view_39
    [Str.ofString "_twin_re_1", Str.ofString "_twin_re_2", Str.ofString "COMPILER_FLAG_NAMES", Str.ofString "tspecials",
      Str.ofString "_formatparam"]

/-- what a call of the def at f with vs gives: from any state of a run, an answer with R, all that stood stands -/
def Says (w : World) (mean : ExcName → Option Value) (mg mb : Str → Option Value) (d : Nat) (f : Addr) (vs : List Value) (pre : Heap → Prop) (R : Value → Prop) : Prop :=
  ∀ (dp un : Nat) (gd : Option (List Code)) (cn : Str) (cs : Scope) (a : Addr) (ccd : Value) (cl : List (Str × Addr)) (outer : List Env) (A₀ : Around) (base h₀ : Heap) (L : Addr) (m : Str → Option Value) (s : Shared) (Q E : Value → Shared → Prop),
    Below A₀ base outer h₀ → Fr h₀ L s.heap m → (hd.heap_39 w.params).In h₀ → Top hd.view_39 loose0 mean mg mb h₀ → cs.kind = .function → dp + d < recursionLimit → un + 8 * d < cLine → pre s.heap →
    (∀ r h' tk', s.heap.StaysIn h' → R r → Q r { s with heap := h', toks := tk' }) →
    wpAny (model PySem.Challenge.rw_ta0016_01.row.prog w) (ktrTop dp un gd cn cs L a ccd cl outer) (call (.ref f) vs) Q E s

theorem says_use {w : World} {mean : ExcName → Option Value} {mg mb : Str → Option Value} {d : Nat} {f : Addr} {vs : List Value} {pre : Heap → Prop} {R : Value → Prop}
    {dp un : Nat} {gd : Option (List Code)} {cn : Str} {cs : Scope} {a : Addr} {ccd : Value} {cl : List (Str × Addr)} {outer : List Env} {A₀ : Around} {base h₀ : Heap} {L : Addr} {m : Str → Option Value} {s : Shared} {Q E : Value → Shared → Prop} {news : List (Addr × Obj)}
    (C : Says w mean mg mb d f vs pre R) (B : Below A₀ base outer h₀) (F : Fr h₀ L s.heap m) (X : (hd.heap_39 w.params).In h₀) (N : News h₀ L s.heap news) (T : Top hd.view_39 loose0 mean mg mb h₀) (hk : cs.kind = .function)
    (hd : dp + d < recursionLimit) (hu : un + 8 * d < cLine) (hp : pre s.heap)
    (ret : ∀ r h' tk', Fr h₀ L h' m → News h₀ L h' news → R r → Q r { s with heap := h', toks := tk' }) :
    wpAny (model PySem.Challenge.rw_ta0016_01.row.prog w) (ktrTop dp un gd cn cs L a ccd cl outer) (call (.ref f) vs) Q E s :=
  C dp un gd cn cs a ccd cl outer A₀ base h₀ L m s Q E B F X T hk hd hu hp fun r h' tk' k hr => ret r h' tk' (F.grownK k) (N.grown k) hr

section
variable {prog : Program} {w : World} {A₀ A : Around} {s : Shared} {base h₀ : Heap} {outer : List Env} {L : Addr} {m mg mb : Str → Option Value} {env : Env} {K : Frag} {p : Program} {loose : List Str} {mean : ExcName → Option Value}
  {R : Result → Shared → Prop} {name qual : Str} {params : Arguments} {body : List Stmt} {scope : Scope} {dV kV doc pm cdv ct oc : Value} {an od : Option Addr} {osl : Array (Option Value)} {f : Addr} {args : Args} {binds : List (Str × Value)}

theorem enter0 (B : Below A₀ base outer h₀) (F : Fr h₀ L s.heap m) (X₀ : K.In h₀) (T : Top p loose mean mg mb h₀) (hA : A.frames = some (env :: outer)) (hf : env.frame = some L) (hke : env.scope.kind = .function)
    (ho : K.lookup f = some ⟨oc, od, .func (fnOf name qual params body scope dV kV doc pm an cdv ct), osl⟩) (hcd : codeIn K cdv qual = true) (hroom : A.depth < recursionLimit)
    (hbind : BindsTo s (fnOf name qual params body scope dV kV doc pm an cdv ct) args binds) (hloc : ∀ y ∈ binds, scope.names.lookup y.1 = some .local)
    (hpos : 0 < binds.length)
    (h : ∀ L' h₁ tk, 0 < tk → Fr s.heap L' h₁ (fun y => binds.reverse.lookup y) → News s.heap L' h₁ [] → Below A base (env :: outer) s.heap → K.In s.heap → Top p loose mean mg mb s.heap →
      wpAny (model prog w) (A.deeper (envOf qual scope L' f cdv)) (execs body (envOf qual scope L' f cdv))
        (fun fl s' => LeaveK h₀ L m s.heap (fun r s'' => s.heap.StaysIn s''.heap → R r s'') (match fl with | .ret v => v | _ => .none) s')
        (fun e s' => wpAny (model prog w) (A.deeper (envOf qual scope L' f cdv)) (leaving (envOf qual scope L' f cdv) e) (fun _ s'' => R (.error e) s'') (fun e' s'' => R (.error e') s'') s')
        { s with heap := h₁, toks := tk })
    (hcell : ∀ x ∈ scope.names, x.2 ≠ .cell) (hco : scope.isCoroutine = false) (hgen : scope.isGenerator = false) (hk : scope.kind = .function) : codeAny (model prog w) A (.call (.ref f) args) R s := by
  obtain ⟨FG, BG, st, lv⟩ := groundX (R := R) B F (News.nil) hA hf hke
  refine codeAny_call_def (fd := fnOf name qual params body scope dV kV doc pm an cdv ct) (body := body) (binds := binds) hroom ((X₀.keeps F.keep) _ _ ho) rfl (T.nolimit.keeps F.keep) (codeRec_of (X₀.keeps F.keep) hcd) rfl hbind hcell hloc (fun h₁ hns hk₁ => ?_) hco hgen hk
  refine wpAny_mono (h s.heap.objs.size h₁ _ (Nat.lt_of_lt_of_le hpos (Nat.le_add_left _ _)) ⟨hns, hk₁, Nat.le_refl _⟩ News.nil BG (X₀.keeps F.keep) (T.keeps F.keep)) (fun fl s' hl => ?_) fun _ _ y => y
  obtain ⟨L', m', news', F', N', k⟩ := hl
  exact lv _ _ ⟨L', m', news', F', N', fun a b => k a b F'.keep⟩

theorem enterC (B : Below A₀ base outer h₀) (F : Fr h₀ L s.heap m) (X₀ : K.In h₀) (T : Top p loose mean mg mb h₀) (hA : A.frames = some (env :: outer)) (hf : env.frame = some L) (hke : env.scope.kind = .function)
    (ho : K.lookup f = some ⟨oc, od, .func (fnOf name qual params body scope dV kV doc pm an cdv ct), osl⟩) (hcd : codeIn K cdv qual = true) (hroom : A.depth < recursionLimit)
    (hbind : BindsTo s (fnOf name qual params body scope dV kV doc pm an cdv ct) args binds) (hkind : (binds.all fun y => scope.names.lookup y.1 == some .local || scope.names.lookup y.1 == some .cell) = true)
    (hnd : ((cellsFrom 0 scope.names []).map (·.1)).Nodup)
    (h : ∀ L' h₁ tk cells, Fr s.heap L' h₁ (bindL (envOfC qual scope L' f cdv).kindOf binds fun _ => none) → News s.heap L' h₁ cells →
      CellsAre (bindC (envOfC qual scope L' f cdv).kindOf binds fun _ => none) (cellsFrom (L' + 1) scope.names []) cells → Below A base (env :: outer) s.heap → K.In s.heap → Top p loose mean mg mb s.heap →
      wpAny (model prog w) (A.deeper (envOfC qual scope L' f cdv)) (execs body (envOfC qual scope L' f cdv))
        (fun fl s' => LeaveK h₀ L m s.heap (fun r s'' => s.heap.StaysIn s''.heap → R r s'') (match fl with | .ret v => v | _ => .none) s')
        (fun e s' => wpAny (model prog w) (A.deeper (envOfC qual scope L' f cdv)) (leaving (envOfC qual scope L' f cdv) e) (fun _ s'' => R (.error e) s'') (fun e' s'' => R (.error e') s'') s')
        { s with heap := h₁, toks := tk })
    (hco : scope.isCoroutine = false) (hgen : scope.isGenerator = false) (hk : scope.kind = .function) : codeAny (model prog w) A (.call (.ref f) args) R s := by
  obtain ⟨FG, BG, st, lv⟩ := groundX (R := R) B F (News.nil) hA hf hke
  refine codeAny_call_function hroom ((X₀.keeps F.keep) _ _ ho) rfl hco hgen rfl (codeRec_of (X₀.keeps F.keep) hcd) (hbind _ _ _ _ ?_)
  refine wpAny_newFunctionEnv_cells hk (kindsX hkind _) fun env' he s' x => ?_
  subst he
  refine ⟨(T.nolimit.keeps F.keep).keeps x.toInCall.keep, codeAny_func ?_⟩
  obtain ⟨h₁, tk, rfl, _⟩ := x.done
  have hk₁ := x.toInCall.keep
  obtain ⟨cells, NC, Y⟩ := Cl.news (h₀ := s.heap) (Nat.le_refl _) fun n c hm => ⟨x.cell n c (lookup_of_mem_nodup (cellsFrom_names scope.names 0 (s.heap.objs.size + 1) [] [] rfl ▸ hnd) hm), x.above n c hm⟩
  refine wpAny_mono (h s.heap.objs.size h₁ tk cells ⟨x.toInCall.ns, hk₁, Nat.le_refl _⟩ NC Y BG (X₀.keeps F.keep) (T.keeps F.keep)) (fun fl s' hl => ?_) fun _ _ y => y
  obtain ⟨L', m', news', F', N', k⟩ := hl
  exact lv _ _ ⟨L', m', news', F', N', fun a b => k a b F'.keep⟩
end

theorem says_ret {s : Shared} {Q : Value → Shared → Prop} {R : Value → Prop} {r : Value} {h' : Heap} {tk' : Nat}
    (hret : ∀ r h' tk', s.heap.StaysIn h' → R r → Q r { s with heap := h', toks := tk' }) (hr : R r) (st : s.heap.StaysIn h') : Q r { s with heap := h', toks := tk' } := hret r h' tk' st hr

/-- a text by its signs -/
abbrev S (l : List Nat) : Str := ⟨l.toArray⟩
/-- every sign c becomes r -/
def sub1 (c : Nat) (r l : List Nat) : List Nat := l.flatMap fun d => if d = c then r else [d]

theorem gen_toks {M : Model} {A : Around} {E : Value → Shared → Prop} {st : List Stmt} {env : Env} {Q : Flow → Shared → Prop} {h g d o} {n : Nat} (hn : 0 < n)
    (k : ∀ tk, 0 < tk → wpAny M A (execs st env) Q E ⟨h, g, d, tk, o⟩) : wpAny M A (execs st env) Q E ⟨h, g, d, n, o⟩ := k n hn

section
variable {prog : Program} {w : World} {A : Around} {E : Value → Shared → Prop} {s : Shared} {x y z : Str} {t u v : Tok} {Q : Value → Shared → Prop}
theorem replaceP (hs : 0 < s.toks) (hu : u ≠ 0) (hv : v ≠ 0) (huv : u ≠ v) (hyz : (y == z) = false) (hb : x.length + (x.length + 1) * z.length ≤ 16777216)
    (hq : ∀ t' k, 0 < k → Q (.str (Txt.replace x y z) t') { s with toks := k }) : wpAny (model prog w) A (call (.builtin "str.replace") [.str x t, .str y u, .str z v]) Q E s := by
  have e : (2 : Nat) ^ 24 = 16777216 := by decide
  have hl : Builtin.Str.tooLong (x.length + (Builtin.Str.occurrences x y 0 x.length (x.length + 1)).length * z.length) = false := by
    have h1 := StrLaws.occ_length_le x y 0 x.length (x.length + 1)
    have h2 : (Builtin.Str.occurrences x y 0 x.length (x.length + 1)).length * z.length ≤ (x.length + 1) * z.length := Nat.mul_le_mul_right _ h1
    unfold Builtin.Str.tooLong sizeLine
    exact decide_eq_false (by omega)
  refine call_gives F.slot_str_replace (typeIs_str _ _ _) F.entry_str_replace (F.args_str_replace_3 _ _ _)
    (gives_str_replace x y z t u v fun _ => ⟨by simp [hu, hv], by simp [huv], hyz, hl⟩) ?_
  unfold Txt.replace at hq
  cases hc : ((Builtin.Str.occurrences x y 0 x.length (x.length + 1)).isEmpty || (y.length == 0 && z.length == 0))
  · rw [hc] at hq
    simp only [Bool.false_eq_true, if_false] at hq ⊢
    exact ⟨fits_replaced y hb, hq _ _ (Nat.succ_pos _)⟩
  · rw [hc] at hq
    simp only [if_true] at hq ⊢
    exact hq t s.toks hs
theorem replaceS {l : List Nat} (hs : 0 < s.toks) (hu : u ≠ 0) (hv : v ≠ 0) (huv : u ≠ v) (hyz : (y == z) = false) (hx : l.length ≤ 2000000) (hz : z.length ≤ 6)
    (hq : ∀ t' k, 0 < k → Q (.str (Txt.replace (S l) y z) t') { s with toks := k }) : wpAny (model prog w) A (call (.builtin "str.replace") [.str (S l) t, .str y u, .str z v]) Q E s :=
  replaceP hs hu hv huv hyz (by have h0 : (S l).length = l.length := List.size_toArray ..
                                have h1 : ((S l).length + 1) * z.length ≤ ((S l).length + 1) * 6 := Nat.mul_le_mul_left _ hz
                                omega) hq
theorem replaceP4 (hs : 0 < s.toks) (hu : u ≠ 0) (hv : v ≠ 0) (huv : u ≠ v) (hyz : (y == z) = false) (hx : x.length ≤ 100000) (hz : z.length ≤ 14)
    (hq : ∀ t' k, 0 < k → Q (.str (Txt.replace x y z) t') { s with toks := k }) : wpAny (model prog w) A (call (.builtin "str.replace") [.str x t, .str y u, .str z v]) Q E s :=
  replaceP hs hu hv huv hyz (by have h1 : (x.length + 1) * z.length ≤ (x.length + 1) * 14 := Nat.mul_le_mul_left _ hz
                                omega) hq
end

theorem sub1_free (c : Nat) (r : List Nat) : ∀ l : List Nat, c ∉ l → sub1 c r l = l
  | [], _ => rfl
  | d :: l, h => by
    have ih := sub1_free c r l fun q => h (List.mem_cons_of_mem _ q)
    have hd : d ≠ c := fun e => h (e ▸ List.mem_cons_self ..)
    unfold sub1 at ih ⊢
    rw [List.flatMap_cons, ih, if_neg hd]; rfl
theorem sub1_append (c : Nat) (r a b : List Nat) : sub1 c r (a ++ b) = sub1 c r a ++ sub1 c r b := by
  unfold sub1; rw [List.flatMap_append]
theorem sub1_one (c : Nat) (r : List Nat) : sub1 c r [c] = r := by simp [sub1]
theorem join_sub1 (c : Nat) (z : Str) : ∀ ps : List Str, (∀ p ∈ ps, c ∉ p.cps.toList) → (Str.join z ps).cps.toList = sub1 c z.cps.toList (Str.join ⟨#[c]⟩ ps).cps.toList
  | [], _ => rfl
  | [p], h => (sub1_free c _ _ (h p (List.mem_singleton.mpr rfl))).symm
  | p :: q :: r, h => by
    have ih := join_sub1 c z (q :: r) fun a ha => h a (List.mem_cons_of_mem _ ha)
    show (p ++ z ++ Str.join z (q :: r)).cps.toList = sub1 c z.cps.toList (p ++ ⟨#[c]⟩ ++ Str.join ⟨#[c]⟩ (q :: r)).cps.toList
    simp only [Str.cps_append, Array.toList_append]
    rw [sub1_append, sub1_append, ih, sub1_free c _ _ (h p (List.mem_cons_self ..))]
    show _ = p.cps.toList ++ sub1 c z.cps.toList [c] ++ _
    rw [sub1_one]
theorem replace_sub1 (x z : Str) (c : Nat) : Txt.replace x ⟨#[c]⟩ z = S (sub1 c z.cps.toList x.cps.toList) := by
  apply Str.ext'
  rw [← Array.toList_inj]
  rw [StrLaws.replace_one, join_sub1 c z _ (StrLaws.split_free x c), StrLaws.join_split]
theorem sub1_length (c : Nat) (r : List Nat) {k : Nat} (h1 : 1 ≤ k) (hr : r.length ≤ k) : ∀ l : List Nat, (sub1 c r l).length ≤ k * l.length
  | [] => Nat.zero_le _
  | d :: l => by
    have ih := sub1_length c r h1 hr l
    unfold sub1 at ih ⊢
    rw [List.flatMap_cons, List.length_append, List.length_cons, Nat.mul_succ]
    have : (if d = c then r else [d]).length ≤ k := by split <;> simp_all
    omega
section
variable {prog : Program} {w : World} {A : Around} {E : Value → Shared → Prop} {s : Shared} {y z : Str} {t u v : Tok} {Q : Value → Shared → Prop}
theorem replaceC {l : List Nat} (hs : 0 < s.toks) (hu : u ≠ 0) (hv : v ≠ 0) (huv : u ≠ v) (hyz : (y == z) = false) (hx : l.length ≤ 2000000) (hz : z.length ≤ 6) (hy : y = ⟨#[y.cps.getD 0 0]⟩)
    (hq : ∀ t' k, 0 < k → (sub1 (y.cps.getD 0 0) z.cps.toList l).length ≤ 6 * l.length → Q (.str (S (sub1 (y.cps.getD 0 0) z.cps.toList l)) t') { s with toks := k }) : wpAny (model prog w) A (call (.builtin "str.replace") [.str (S l) t, .str y u, .str z v]) Q E s := by
  refine replaceS hs hu hv huv hyz hx hz fun t' k hk => ?_
  have e : Txt.replace (S l) y z = S (sub1 (y.cps.getD 0 0) z.cps.toList l) := by
    have := replace_sub1 (S l) z (y.cps.getD 0 0)
    rw [← hy] at this
    exact this
  rw [e]
  exact hq t' k hk (sub1_length _ _ (by decide) (by rw [Array.length_toList]; exact hz) _)
theorem lenS {l : List Nat} (hx : l.length ≤ 2000000) (h : Q (.int (l.length : Int) (s.toks + 1)) { s with toks := s.toks + 1 + 1 }) : wpAny (model prog w) A (call (.builtin "len") [.str (S l) t]) Q E s := by
  have e : (S l).length = l.length := List.size_toArray ..
  refine SBL.len (by omega) ?_
  rw [e]
  exact h
end
end Mine
end

/-! ## EscBase -/
section
open PySem PySem.W PySem.Calls PyProof.Rows
set_option maxRecDepth 100000
namespace Mine
theorem same_frame {m : Str → Option Value} {k : Str} {v : Value} (h : m k = some v) : (fun y => if y = k then some v else m y) = m := by
  funext y
  by_cases e : y = k
  · rw [if_pos e, e, h]
  · rw [if_neg e]
def EscPost (h₀ : Heap) (L : Addr) (m : Str → Option Value) (l : List Nat) (c : Nat) (r : Str) (s : Shared) (fl : Flow) (s' : Shared) : Prop :=
  ∃ t' h' tk', fl = .next ∧ s' = { s with heap := h', toks := tk' } ∧ 0 < tk' ∧ Fr h₀ L h' (fun y => if y = Str.ofString "text" then some (.str (S (sub1 c r.cps.toList l)) t') else m y) ∧ News h₀ L h' []
theorem esc_join (k : Nat) {M : Model} {A : Around} {E : Value → Shared → Prop} {s : Shared} {h₀ : Heap} {L : Addr} {m : Str → Option Value} {env : Env} {c r : Str} {l : List Nat} {t : Tok} {k1 : Nat} {c2 : Str} {k2 k3 : Nat} {name n2 n3 n4 : Str} {p1 p2 p3 p4 p5 p6 p7 p8 p9 p10 p11 : Pos} {body : List Stmt} {Q : Flow → Shared → Prop}
    (hbody : body = [.Assign [.Name n2 p4] (.Call (.Attribute (.Name n3 p5) n4 p6) [.Constant (.str c2) k2 p7, .Constant (.str r) k3 p8] [] p9) p10])
    (F : Fr h₀ L s.heap m) (hm : m (Str.ofString "text") = some (.str (S l) t)) (hr : r.length ≤ k) (h1 : 1 ≤ k) (hx : l.length ≤ 2000000)
    (hW : wpAny M A (isTrue (.Compare (.Constant (.str c) k1 p1) [.In] [.Name name p2] p3) env (eval (.Compare (.Constant (.str c) k1 p1) [.In] [.Name name p2] p3) env))
      (fun b s₂ => if b then wpAny M A (execs body env) (EscPost h₀ L m l (c.cps.getD 0 0) r s) E s₂ else wpAny M A (execs [] env) (EscPost h₀ L m l (c.cps.getD 0 0) r s) E s₂) E s)
    (h : ∀ t' h' tk', 0 < tk' → (sub1 (c.cps.getD 0 0) r.cps.toList l).length ≤ k * l.length → Fr h₀ L h' (fun y => if y = Str.ofString "text" then some (.str (S (sub1 (c.cps.getD 0 0) r.cps.toList l)) t') else m y) → News h₀ L h' [] → Q .next { s with heap := h', toks := tk' }) :
    wpAny M A (exec (.If (.Compare (.Constant (.str c) k1 p1) [.In] [.Name name p2] p3) body [] p11) env) Q E s := by
  refine wpAny_mono (wpAny_If hW) (fun fl s' hp => ?_) fun _ _ e => e
  obtain ⟨t', h', tk', rfl, rfl, h0, F, N⟩ := hp
  refine h t' h' tk' h0 ?_ F N
  exact sub1_length _ _ h1 hr _
theorem esc_in {h₀ : Heap} {L : Addr} {m : Str → Option Value} {l : List Nat} {c : Nat} {c' r : Str} {s : Shared} {t' : Tok} {h' : Heap} {tk' : Nat} (hc : c' = ⟨#[c]⟩) (F : Fr h₀ L h' (fun y => if y = Str.ofString "text" then some (.str (Txt.replace (S l) c' r) t') else m y)) (N : News h₀ L h' []) (h0 : 0 < tk') :
    EscPost h₀ L m l c r s .next { s with heap := h', toks := tk' } := by
  subst hc
  rw [replace_sub1] at F
  exact ⟨t', h', tk', rfl, rfl, h0, F, N⟩
theorem esc_out {h₀ : Heap} {L : Addr} {m : Str → Option Value} {l : List Nat} {c : Nat} {c' r : Str} {s : Shared} {t : Tok} {h' : Heap} {tk' : Nat} (hc : c' = ⟨#[c]⟩) (hn : (Builtin.Str.occurrences (S l) c' 0 (S l).length 1).isEmpty = true) (hm : m (Str.ofString "text") = some (.str (S l) t)) (F : Fr h₀ L h' m) (N : News h₀ L h' []) (h0 : 0 < tk') :
    EscPost h₀ L m l c r s .next { s with heap := h', toks := tk' } := by
  subst hc
  have hni : c ∉ l := by
    have := StrLaws.found_one (S l) c
    rw [hn] at this
    simpa using this.symm
  refine ⟨t, h', tk', rfl, rfl, h0, ?_, N⟩
  rw [sub1_free _ _ _ hni, same_frame hm]
  exact F
end Mine
end

/-! ## CEsc -/
section
open PySem PySem.W PySem.Calls PyProof.Rows
set_option maxRecDepth 100000
namespace Mine
local macro_rules | `(tactic| walk_at $s:str) => `(tactic| k_extra $s)
set_option maxHeartbeats 8000000 in
theorem c_cdata (w : World) (mean : ExcName → Option Value) (mg mb : Str → Option Value) (l : List Nat) (t : Tok) (hx : l.length ≤ 100) :
    Says w mean mg mb 1 83 [.str (S l) t] (fun _ => True) (fun r => ∃ t', r = .str (S (sub1 62 (Str.ofString "&gt;").cps.toList (sub1 60 (Str.ofString "&lt;").cps.toList (sub1 38 (Str.ofString "&amp;").cps.toList l)))) t') := by
  w_top off
  k_with_none
  k_with "execs nil" => ((k_here; (with_reducible show wpAny _ _ _ _ _ (Shared.mk _ _ _ (_ + 1) _)); refine gen_toks (Nat.succ_pos _) ?_; intro tk htk))
  k_with "execs cons" => ((k_here; (with_reducible show wpAny _ _ _ _ _ (Shared.mk _ _ _ (_ + 1) _)); refine gen_toks (Nat.succ_pos _) ?_; intro tk htk))
  k_with "call builtin:str.replace" => (((with_reducible show wpAny _ _ (call (Value.builtin "str.replace") [Value.str _ _, Value.str _ _, Value.str _ _]) _ _ _); k_dflt (refine replaceS ?zqhs ?zqhu ?zqhv ?zqhuv ?zqhyz ?zqhx ?zqhz ?_; (case zqhs => (dsimp only; omega)); (case zqhu => (show @Ne Nat _ _; omega)); (case zqhv => (show @Ne Nat _ _; omega)); (case zqhuv => (show @Ne Nat _ _; omega)); (case zqhyz => decide); (case zqhx => omega); (case zqhz => decide); intro _ _ _)))
  k_with "exec If" => ((k_here; (with_reducible show wpAny _ _ (exec (Stmt.If (Expr.Compare (Expr.Constant (Const.str _) _ _) [CmpOp.In] [Expr.Name _ _] _) _ [] _) _) _ _ _); k_dflt (first | (refine' esc_join 4 ?zqb ?zqF ?zqm ?zqr ?zqo ?zqx ?_ ?_; (case zqb => exact rfl); (case zqF => k_asm); (case zqm => exact rfl); (case zqr => decide); (case zqo => decide); (case zqx => omega); k_whole; rotate_left; intro _ _ _ _ _ _ _; k_sweep) | (refine' esc_join 5 ?zqb ?zqF ?zqm ?zqr ?zqo ?zqx ?_ ?_; (case zqb => exact rfl); (case zqF => k_asm); (case zqm => exact rfl); (case zqr => decide); (case zqo => decide); (case zqx => omega); k_whole; rotate_left; intro _ _ _ _ _ _ _; k_sweep) | (refine' esc_join 6 ?zqb ?zqF ?zqm ?zqr ?zqo ?zqx ?_ ?_; (case zqb => exact rfl); (case zqF => k_asm); (case zqm => exact rfl); (case zqr => decide); (case zqo => decide); (case zqx => omega); k_whole; rotate_left; intro _ _ _ _ _ _ _; k_sweep))))
  unfold Says
  k_fill
  intro dp un gd cn cs a ccd cl outer A₀ base h₀ L m s Q E B F X T hk hd hu hp hret
  refine wpAny_call ?_
  (refine' enter0 ?k1 ?k2 ?k3 ?k5 ?kA ?kF ?kK ?k6 ?k7 ?k8 ?k9 ?kB ?kP ?_ ?c5 ?c2 ?c3 ?c4; (case kA => exact rfl); (case kF => exact rfl); (case kK => assumption); (case k1 => k_asm); (case k2 => k_asm); (case k3 => k_asm); (case k5 => k_asm); (case k6 => k_is); (case k7 => k_is); (case k8 => ktr_room); (case k9 => exact BindsTo.of_eq rfl); (case c5 => decide); (case kB => exact locs rfl); (case kP => exact Nat.succ_pos _); (case c2 => exact rfl); (case c3 => exact rfl); (case c4 => exact rfl); k_whole; intro L' h' tk htk F' N' B' X' T'; (try dsimp only); (try k_lift B'); (try k_fold))
  k_steps
  all_goals first
    | (refine' esc_in ?hc ?F ?N ?h0; (case F => assumption); (case N => assumption); (case h0 => omega); (case hc => decide))
    | (refine' esc_out ?hc ?hn ?hm ?F ?N ?h0; (case hn => assumption); (case hm => exact rfl); (case F => assumption); (case N => assumption); (case h0 => omega); (case hc => decide))
    | exact hret _ _ _ (by assumption) ⟨_, rfl⟩
set_option maxHeartbeats 8000000 in
theorem c_attrib (w : World) (mean : ExcName → Option Value) (mg mb : Str → Option Value) (l : List Nat) (t : Tok) (hx : l.length ≤ 100) :
    Says w mean mg mb 1 90 [.str (S l) t] (fun _ => True) (fun r => ∃ t', r = .str (S (sub1 9 (Str.ofString "&#09;").cps.toList (sub1 10 (Str.ofString "&#10;").cps.toList (sub1 13 (Str.ofString "&#13;").cps.toList (sub1 34 (Str.ofString "&quot;").cps.toList (sub1 62 (Str.ofString "&gt;").cps.toList (sub1 60 (Str.ofString "&lt;").cps.toList (sub1 38 (Str.ofString "&amp;").cps.toList l)))))))) t') := by
  w_top off
  k_with_none
  k_with "execs nil" => ((k_here; (with_reducible show wpAny _ _ _ _ _ (Shared.mk _ _ _ (_ + 1) _)); refine gen_toks (Nat.succ_pos _) ?_; intro tk htk))
  k_with "execs cons" => ((k_here; (with_reducible show wpAny _ _ _ _ _ (Shared.mk _ _ _ (_ + 1) _)); refine gen_toks (Nat.succ_pos _) ?_; intro tk htk))
  k_with "call builtin:str.replace" => (((with_reducible show wpAny _ _ (call (Value.builtin "str.replace") [Value.str _ _, Value.str _ _, Value.str _ _]) _ _ _); k_dflt (refine replaceS ?zqhs ?zqhu ?zqhv ?zqhuv ?zqhyz ?zqhx ?zqhz ?_; (case zqhs => (dsimp only; omega)); (case zqhu => (show @Ne Nat _ _; omega)); (case zqhv => (show @Ne Nat _ _; omega)); (case zqhuv => (show @Ne Nat _ _; omega)); (case zqhyz => decide); (case zqhx => omega); (case zqhz => decide); intro _ _ _)))
  k_with "exec If" => ((k_here; (with_reducible show wpAny _ _ (exec (Stmt.If (Expr.Compare (Expr.Constant (Const.str _) _ _) [CmpOp.In] [Expr.Name _ _] _) _ [] _) _) _ _ _); k_dflt (first | (refine' esc_join 4 ?zqb ?zqF ?zqm ?zqr ?zqo ?zqx ?_ ?_; (case zqb => exact rfl); (case zqF => k_asm); (case zqm => exact rfl); (case zqr => decide); (case zqo => decide); (case zqx => omega); k_whole; rotate_left; intro _ _ _ _ _ _ _; k_sweep) | (refine' esc_join 5 ?zqb ?zqF ?zqm ?zqr ?zqo ?zqx ?_ ?_; (case zqb => exact rfl); (case zqF => k_asm); (case zqm => exact rfl); (case zqr => decide); (case zqo => decide); (case zqx => omega); k_whole; rotate_left; intro _ _ _ _ _ _ _; k_sweep) | (refine' esc_join 6 ?zqb ?zqF ?zqm ?zqr ?zqo ?zqx ?_ ?_; (case zqb => exact rfl); (case zqF => k_asm); (case zqm => exact rfl); (case zqr => decide); (case zqo => decide); (case zqx => omega); k_whole; rotate_left; intro _ _ _ _ _ _ _; k_sweep))))
  unfold Says
  k_fill
  intro dp un gd cn cs a ccd cl outer A₀ base h₀ L m s Q E B F X T hk hd hu hp hret
  refine wpAny_call ?_
  (refine' enter0 ?k1 ?k2 ?k3 ?k5 ?kA ?kF ?kK ?k6 ?k7 ?k8 ?k9 ?kB ?kP ?_ ?c5 ?c2 ?c3 ?c4; (case kA => exact rfl); (case kF => exact rfl); (case kK => assumption); (case k1 => k_asm); (case k2 => k_asm); (case k3 => k_asm); (case k5 => k_asm); (case k6 => k_is); (case k7 => k_is); (case k8 => ktr_room); (case k9 => exact BindsTo.of_eq rfl); (case c5 => decide); (case kB => exact locs rfl); (case kP => exact Nat.succ_pos _); (case c2 => exact rfl); (case c3 => exact rfl); (case c4 => exact rfl); k_whole; intro L' h' tk htk F' N' B' X' T'; (try dsimp only); (try k_lift B'); (try k_fold))
  k_steps
  all_goals first
    | (refine' esc_in ?hc ?F ?N ?h0; (case F => assumption); (case N => assumption); (case h0 => omega); (case hc => decide))
    | (refine' esc_out ?hc ?hn ?hm ?F ?N ?h0; (case hn => assumption); (case hm => exact rfl); (case F => assumption); (case N => assumption); (case h0 => omega); (case hc => decide))
    | exact hret _ _ _ (by assumption) ⟨_, rfl⟩
set_option maxHeartbeats 8000000 in
theorem c_html (w : World) (mean : ExcName → Option Value) (mg mb : Str → Option Value) (l : List Nat) (t : Tok) (hx : l.length ≤ 100) :
    Says w mean mg mb 1 97 [.str (S l) t] (fun _ => True) (fun r => ∃ t', r = .str (S (sub1 34 (Str.ofString "&quot;").cps.toList (sub1 62 (Str.ofString "&gt;").cps.toList (sub1 38 (Str.ofString "&amp;").cps.toList l)))) t') := by
  w_top off
  k_with_none
  k_with "execs nil" => ((k_here; (with_reducible show wpAny _ _ _ _ _ (Shared.mk _ _ _ (_ + 1) _)); refine gen_toks (Nat.succ_pos _) ?_; intro tk htk))
  k_with "execs cons" => ((k_here; (with_reducible show wpAny _ _ _ _ _ (Shared.mk _ _ _ (_ + 1) _)); refine gen_toks (Nat.succ_pos _) ?_; intro tk htk))
  k_with "call builtin:str.replace" => (((with_reducible show wpAny _ _ (call (Value.builtin "str.replace") [Value.str _ _, Value.str _ _, Value.str _ _]) _ _ _); k_dflt (refine replaceS ?zqhs ?zqhu ?zqhv ?zqhuv ?zqhyz ?zqhx ?zqhz ?_; (case zqhs => (dsimp only; omega)); (case zqhu => (show @Ne Nat _ _; omega)); (case zqhv => (show @Ne Nat _ _; omega)); (case zqhuv => (show @Ne Nat _ _; omega)); (case zqhyz => decide); (case zqhx => omega); (case zqhz => decide); intro _ _ _)))
  k_with "exec If" => ((k_here; (with_reducible show wpAny _ _ (exec (Stmt.If (Expr.Compare (Expr.Constant (Const.str _) _ _) [CmpOp.In] [Expr.Name _ _] _) _ [] _) _) _ _ _); k_dflt (first | (refine' esc_join 4 ?zqb ?zqF ?zqm ?zqr ?zqo ?zqx ?_ ?_; (case zqb => exact rfl); (case zqF => k_asm); (case zqm => exact rfl); (case zqr => decide); (case zqo => decide); (case zqx => omega); k_whole; rotate_left; intro _ _ _ _ _ _ _; k_sweep) | (refine' esc_join 5 ?zqb ?zqF ?zqm ?zqr ?zqo ?zqx ?_ ?_; (case zqb => exact rfl); (case zqF => k_asm); (case zqm => exact rfl); (case zqr => decide); (case zqo => decide); (case zqx => omega); k_whole; rotate_left; intro _ _ _ _ _ _ _; k_sweep) | (refine' esc_join 6 ?zqb ?zqF ?zqm ?zqr ?zqo ?zqx ?_ ?_; (case zqb => exact rfl); (case zqF => k_asm); (case zqm => exact rfl); (case zqr => decide); (case zqo => decide); (case zqx => omega); k_whole; rotate_left; intro _ _ _ _ _ _ _; k_sweep))))
  unfold Says
  k_fill
  intro dp un gd cn cs a ccd cl outer A₀ base h₀ L m s Q E B F X T hk hd hu hp hret
  refine wpAny_call ?_
  (refine' enter0 ?k1 ?k2 ?k3 ?k5 ?kA ?kF ?kK ?k6 ?k7 ?k8 ?k9 ?kB ?kP ?_ ?c5 ?c2 ?c3 ?c4; (case kA => exact rfl); (case kF => exact rfl); (case kK => assumption); (case k1 => k_asm); (case k2 => k_asm); (case k3 => k_asm); (case k5 => k_asm); (case k6 => k_is); (case k7 => k_is); (case k8 => ktr_room); (case k9 => exact BindsTo.of_eq rfl); (case c5 => decide); (case kB => exact locs rfl); (case kP => exact Nat.succ_pos _); (case c2 => exact rfl); (case c3 => exact rfl); (case c4 => exact rfl); k_whole; intro L' h' tk htk F' N' B' X' T'; (try dsimp only); (try k_lift B'); (try k_fold))
  k_steps
  all_goals first
    | (refine' esc_in ?hc ?F ?N ?h0; (case F => assumption); (case N => assumption); (case h0 => omega); (case hc => decide))
    | (refine' esc_out ?hc ?hn ?hm ?F ?N ?h0; (case hn => assumption); (case hm => exact rfl); (case F => assumption); (case N => assumption); (case h0 => omega); (case hc => decide))
    | exact hret _ _ _ (by assumption) ⟨_, rfl⟩
set_option maxHeartbeats 8000000 in
theorem c_c14n (w : World) (mean : ExcName → Option Value) (mg mb : Str → Option Value) (l : List Nat) (t : Tok) (hx : l.length ≤ 100) :
    Says w mean mg mb 1 104 [.str (S l) t] (fun _ => True) (fun r => ∃ t', r = .str (S (sub1 13 (Str.ofString "&#xD;").cps.toList (sub1 62 (Str.ofString "&gt;").cps.toList (sub1 60 (Str.ofString "&lt;").cps.toList (sub1 38 (Str.ofString "&amp;").cps.toList l))))) t') := by
  w_top off
  k_with_none
  k_with "execs nil" => ((k_here; (with_reducible show wpAny _ _ _ _ _ (Shared.mk _ _ _ (_ + 1) _)); refine gen_toks (Nat.succ_pos _) ?_; intro tk htk))
  k_with "execs cons" => ((k_here; (with_reducible show wpAny _ _ _ _ _ (Shared.mk _ _ _ (_ + 1) _)); refine gen_toks (Nat.succ_pos _) ?_; intro tk htk))
  k_with "call builtin:str.replace" => (((with_reducible show wpAny _ _ (call (Value.builtin "str.replace") [Value.str _ _, Value.str _ _, Value.str _ _]) _ _ _); k_dflt (refine replaceS ?zqhs ?zqhu ?zqhv ?zqhuv ?zqhyz ?zqhx ?zqhz ?_; (case zqhs => (dsimp only; omega)); (case zqhu => (show @Ne Nat _ _; omega)); (case zqhv => (show @Ne Nat _ _; omega)); (case zqhuv => (show @Ne Nat _ _; omega)); (case zqhyz => decide); (case zqhx => omega); (case zqhz => decide); intro _ _ _)))
  k_with "exec If" => ((k_here; (with_reducible show wpAny _ _ (exec (Stmt.If (Expr.Compare (Expr.Constant (Const.str _) _ _) [CmpOp.In] [Expr.Name _ _] _) _ [] _) _) _ _ _); k_dflt (first | (refine' esc_join 4 ?zqb ?zqF ?zqm ?zqr ?zqo ?zqx ?_ ?_; (case zqb => exact rfl); (case zqF => k_asm); (case zqm => exact rfl); (case zqr => decide); (case zqo => decide); (case zqx => omega); k_whole; rotate_left; intro _ _ _ _ _ _ _; k_sweep) | (refine' esc_join 5 ?zqb ?zqF ?zqm ?zqr ?zqo ?zqx ?_ ?_; (case zqb => exact rfl); (case zqF => k_asm); (case zqm => exact rfl); (case zqr => decide); (case zqo => decide); (case zqx => omega); k_whole; rotate_left; intro _ _ _ _ _ _ _; k_sweep) | (refine' esc_join 6 ?zqb ?zqF ?zqm ?zqr ?zqo ?zqx ?_ ?_; (case zqb => exact rfl); (case zqF => k_asm); (case zqm => exact rfl); (case zqr => decide); (case zqo => decide); (case zqx => omega); k_whole; rotate_left; intro _ _ _ _ _ _ _; k_sweep))))
  unfold Says
  k_fill
  intro dp un gd cn cs a ccd cl outer A₀ base h₀ L m s Q E B F X T hk hd hu hp hret
  refine wpAny_call ?_
  (refine' enter0 ?k1 ?k2 ?k3 ?k5 ?kA ?kF ?kK ?k6 ?k7 ?k8 ?k9 ?kB ?kP ?_ ?c5 ?c2 ?c3 ?c4; (case kA => exact rfl); (case kF => exact rfl); (case kK => assumption); (case k1 => k_asm); (case k2 => k_asm); (case k3 => k_asm); (case k5 => k_asm); (case k6 => k_is); (case k7 => k_is); (case k8 => ktr_room); (case k9 => exact BindsTo.of_eq rfl); (case c5 => decide); (case kB => exact locs rfl); (case kP => exact Nat.succ_pos _); (case c2 => exact rfl); (case c3 => exact rfl); (case c4 => exact rfl); k_whole; intro L' h' tk htk F' N' B' X' T'; (try dsimp only); (try k_lift B'); (try k_fold))
  k_steps
  all_goals first
    | (refine' esc_in ?hc ?F ?N ?h0; (case F => assumption); (case N => assumption); (case h0 => omega); (case hc => decide))
    | (refine' esc_out ?hc ?hn ?hm ?F ?N ?h0; (case hn => assumption); (case hm => exact rfl); (case F => assumption); (case N => assumption); (case h0 => omega); (case hc => decide))
    | exact hret _ _ _ (by assumption) ⟨_, rfl⟩
set_option maxHeartbeats 8000000 in
theorem c_attr14 (w : World) (mean : ExcName → Option Value) (mg mb : Str → Option Value) (l : List Nat) (t : Tok) (hx : l.length ≤ 100) :
    Says w mean mg mb 1 111 [.str (S l) t] (fun _ => True) (fun r => ∃ t', r = .str (S (sub1 13 (Str.ofString "&#xD;").cps.toList (sub1 10 (Str.ofString "&#xA;").cps.toList (sub1 9 (Str.ofString "&#x9;").cps.toList (sub1 34 (Str.ofString "&quot;").cps.toList (sub1 60 (Str.ofString "&lt;").cps.toList (sub1 38 (Str.ofString "&amp;").cps.toList l))))))) t') := by
  w_top off
  k_with_none
  k_with "execs nil" => ((k_here; (with_reducible show wpAny _ _ _ _ _ (Shared.mk _ _ _ (_ + 1) _)); refine gen_toks (Nat.succ_pos _) ?_; intro tk htk))
  k_with "execs cons" => ((k_here; (with_reducible show wpAny _ _ _ _ _ (Shared.mk _ _ _ (_ + 1) _)); refine gen_toks (Nat.succ_pos _) ?_; intro tk htk))
  k_with "call builtin:str.replace" => (((with_reducible show wpAny _ _ (call (Value.builtin "str.replace") [Value.str _ _, Value.str _ _, Value.str _ _]) _ _ _); k_dflt (refine replaceS ?zqhs ?zqhu ?zqhv ?zqhuv ?zqhyz ?zqhx ?zqhz ?_; (case zqhs => (dsimp only; omega)); (case zqhu => (show @Ne Nat _ _; omega)); (case zqhv => (show @Ne Nat _ _; omega)); (case zqhuv => (show @Ne Nat _ _; omega)); (case zqhyz => decide); (case zqhx => omega); (case zqhz => decide); intro _ _ _)))
  k_with "exec If" => ((k_here; (with_reducible show wpAny _ _ (exec (Stmt.If (Expr.Compare (Expr.Constant (Const.str _) _ _) [CmpOp.In] [Expr.Name _ _] _) _ [] _) _) _ _ _); k_dflt (first | (refine' esc_join 4 ?zqb ?zqF ?zqm ?zqr ?zqo ?zqx ?_ ?_; (case zqb => exact rfl); (case zqF => k_asm); (case zqm => exact rfl); (case zqr => decide); (case zqo => decide); (case zqx => omega); k_whole; rotate_left; intro _ _ _ _ _ _ _; k_sweep) | (refine' esc_join 5 ?zqb ?zqF ?zqm ?zqr ?zqo ?zqx ?_ ?_; (case zqb => exact rfl); (case zqF => k_asm); (case zqm => exact rfl); (case zqr => decide); (case zqo => decide); (case zqx => omega); k_whole; rotate_left; intro _ _ _ _ _ _ _; k_sweep) | (refine' esc_join 6 ?zqb ?zqF ?zqm ?zqr ?zqo ?zqx ?_ ?_; (case zqb => exact rfl); (case zqF => k_asm); (case zqm => exact rfl); (case zqr => decide); (case zqo => decide); (case zqx => omega); k_whole; rotate_left; intro _ _ _ _ _ _ _; k_sweep))))
  unfold Says
  k_fill
  intro dp un gd cn cs a ccd cl outer A₀ base h₀ L m s Q E B F X T hk hd hu hp hret
  refine wpAny_call ?_
  (refine' enter0 ?k1 ?k2 ?k3 ?k5 ?kA ?kF ?kK ?k6 ?k7 ?k8 ?k9 ?kB ?kP ?_ ?c5 ?c2 ?c3 ?c4; (case kA => exact rfl); (case kF => exact rfl); (case kK => assumption); (case k1 => k_asm); (case k2 => k_asm); (case k3 => k_asm); (case k5 => k_asm); (case k6 => k_is); (case k7 => k_is); (case k8 => ktr_room); (case k9 => exact BindsTo.of_eq rfl); (case c5 => decide); (case kB => exact locs rfl); (case kP => exact Nat.succ_pos _); (case c2 => exact rfl); (case c3 => exact rfl); (case c4 => exact rfl); k_whole; intro L' h' tk htk F' N' B' X' T'; (try dsimp only); (try k_lift B'); (try k_fold))
  k_steps
  all_goals first
    | (refine' esc_in ?hc ?F ?N ?h0; (case F => assumption); (case N => assumption); (case h0 => omega); (case hc => decide))
    | (refine' esc_out ?hc ?hn ?hm ?F ?N ?h0; (case hn => assumption); (case hm => exact rfl); (case F => assumption); (case N => assumption); (case h0 => omega); (case hc => decide))
    | exact hret _ _ _ (by assumption) ⟨_, rfl⟩
end Mine
end

/-! ## SreA -/
section
open PySem PySem.Sre
set_option maxRecDepth 100000
namespace Mine

def code1 : Array Nat := #[14, 4, 0, 1, 1, 6, 1, 16, 46, 1]
def code2 : Array Nat := #[14, 9, 4, 1, 2, 16, 10, 16, 13, 0, 7, 7, 16, 13, 16, 10, 15, 18, 5, 16, 10, 15, 13, 11, 16, 13, 5, 5, 0, 16, 10, 1, 15, 2, 0, 1]

/-- n steps lead from m to m' -/
def Goes (n : Nat) (m m' : M) : Prop := ∀ k, M.runFor (n + k) m = M.runFor k m'
theorem Goes.refl (m : M) : Goes 0 m m := fun k => by rw [Nat.zero_add]
theorem Goes.trans {a b : Nat} {m m' m'' : M} (x : Goes a m m') (y : Goes b m' m'') : Goes (a + b) m m'' := fun k => by rw [Nat.add_assoc, x, y]
theorem Goes.one {m : M} (h : m.outcome = none) : Goes 1 m m.step := fun k => by
  rw [Nat.add_comm]
  show (if m.outcome.isSome then m else M.runFor k m.step) = _
  rw [h]; rfl
theorem Goes.one' {m m' : M} (h : m.outcome = none) (e : m.step = m') : Goes 1 m m' := e ▸ Goes.one h
theorem runFor_done {m : M} (h : m.outcome.isSome = true) : ∀ k, M.runFor k m = m
  | 0 => rfl
  | k + 1 => by
    show (if m.outcome.isSome then m else M.runFor k m.step) = m
    rw [if_pos h]
theorem Goes.done {n : Nat} {m m' : M} (x : Goes n m m') (h : m'.outcome.isSome = true) {k : Nat} (hk : n ≤ k) : M.runFor k m = m' := by
  obtain ⟨j, rfl⟩ := Nat.le.dest hk
  rw [x, runFor_done h]

/-- the machine where an attempt of the first pattern begins at p -/
def at1 (text : Array Nat) (lim p : Nat) (first : Bool) (seen : Seen) (h0 : Nat) : M :=
  { code := code1, text, lim, start := p, lastStart := lim, pc := 5, pos := p, handed := h0, outermost := first, marks := #[], frames := [{ wait := .nextStart, pc := 5, pos := p, outermost := first }], weight := 1, seen }

theorem search1_start (text : Array Nat) (lim p : Nat) (h : p < lim) : forSearch code1 text 0 p lim false = at1 text lim p true (({} : Seen).add 14) p := by
  unfold forSearch
  have h1 : (decide (p > lim) || decide (lim - p < (header code1).1)) = false := by
    have : (header code1).1 = 1 := by decide
    rw [this]; simp; omega
  simp only []
  rw [if_neg (by rw [h1]; exact Bool.false_ne_true)]
  rfl
theorem search1_none (text : Array Nat) (lim p : Nat) (h : ¬ p < lim) : ∃ m, Goes 1 (forSearch code1 text 0 p lim false) m ∧ m.outcome = some .failed := by
  have h1 : (decide (p > lim) || decide (lim - p < (header code1).1)) = true := by
    have : (header code1).1 = 1 := by decide
    rw [this]; simp; omega
  unfold forSearch
  simp only []
  rw [if_pos h1]
  exact ⟨_, Goes.one rfl, rfl⟩

/-- AT_BEGINNING_LINE at p -/
abbrev LineStart (text : Array Nat) (p : Nat) : Prop := p = 0 ∨ text[p - 1]?.getD 0 = 10

theorem at1_lit (text : Array Nat) (lim p : Nat) (first : Bool) (seen : Seen) (h0 : Nat) (hs : LineStart text p) :
    Goes 1 (at1 text lim p first seen h0) { at1 text lim p first ((seen.add 6).add 44) h0 with pc := 7 } := by
  refine Goes.one' rfl ?_
  simp [M.step, at1, M.exec, M.word, code1, ops, M.isAt, hs]
theorem at1_yes (text : Array Nat) (lim p : Nat) (first : Bool) (seen : Seen) (h0 : Nat) (hp : p < lim) (hs : LineStart text p) (hc : text[p]?.getD 0 = 46) :
    ∃ m, Goes 5 (at1 text lim p first seen h0) m ∧ m.outcome = some .matched ∧ m.start = p ∧ m.handed = p + 1 ∧ m.marks = #[] ∧ m.lastmark = -1 ∧ m.lastindex = -1 := by
  refine ⟨_, (at1_lit text lim p first seen h0 hs).trans ((Goes.one (m := { at1 text lim p first ((seen.add 6).add 44) h0 with pc := 7 }) rfl).trans ((Goes.one ?_).trans ((Goes.one ?_).trans (Goes.one ?_)))), ?_⟩
  all_goals simp [M.step, at1, M.exec, M.word, code1, ops, accepts, itemWidth, hc, M.say, M.resume, Nat.not_le.mpr hp]
theorem Goes.two {m m' : M} (h1 : m.outcome = none) (h2 : m.step.outcome = none) (e : m.step.step = m') : Goes 2 m m' := (Goes.one h1).trans (Goes.one' h2 e)
theorem at1_end (text : Array Nat) (lim p : Nat) (first : Bool) (seen : Seen) (h0 : Nat) (hp : lim ≤ p) :
    ∃ m n, n ≤ 5 ∧ Goes n (at1 text lim p first seen h0) m ∧ m.outcome = some .failed := by
  by_cases hs : LineStart text p
  · refine ⟨_, _, ?_, (at1_lit text lim p first seen h0 hs).trans ((Goes.one (m := { at1 text lim p first ((seen.add 6).add 44) h0 with pc := 7 }) rfl).trans ((Goes.one ?_).trans (Goes.one ?_))), ?_⟩
    all_goals simp [M.step, at1, M.exec, M.word, code1, ops, M.say, M.resume, hp, Nat.not_lt.mpr hp]
  · refine ⟨_, _, ?_, (Goes.one (m := at1 text lim p first seen h0) rfl).trans ((Goes.one ?_).trans (Goes.one ?_)), ?_⟩
    all_goals simp [M.step, at1, M.exec, M.word, code1, ops, M.say, M.resume, hp, Nat.not_lt.mpr hp, M.isAt, hs]
theorem at1_no (text : Array Nat) (lim p : Nat) (first : Bool) (seen : Seen) (h0 : Nat) (hp : p < lim) (hc : ¬ (LineStart text p ∧ text[p]?.getD 0 = 46)) :
    ∃ n seen' h0', n ≤ 5 ∧ Goes n (at1 text lim p first seen h0) (at1 text lim (p + 1) false seen' h0') := by
  by_cases hs : LineStart text p
  · have hc' : (text[p]?.getD 0 == 46) = false := beq_eq_false_iff_ne.mpr fun e => hc ⟨hs, e⟩
    refine ⟨3, (((seen.add 6).add 44).add 16), p + 1, by decide, (at1_lit text lim p first seen h0 hs).trans (Goes.two rfl ?_ ?_)⟩
    all_goals simp [M.step, at1, M.exec, M.word, code1, ops, accepts, itemWidth, hc', M.say, M.resume, Nat.not_le.mpr hp, hp, M.attemptFrom, M.hasFirstSet, M.attemptAt, M.attempt, M.putBack]
  · refine ⟨2, ((seen.add 6).add 44), p + 1, by decide, Goes.two rfl ?_ ?_⟩
    all_goals simp [M.step, at1, M.exec, M.word, code1, ops, accepts, itemWidth, M.isAt, hs, M.say, M.resume, Nat.not_le.mpr hp, hp, M.attemptFrom, M.hasFirstSet, M.attemptAt, M.attempt, M.putBack]

/-- where the first pattern is found from p on, n places tried -/
def find1 (text : Array Nat) : (n p : Nat) → Option Nat
  | 0, _ => none
  | n + 1, p => if LineStart text p ∧ text[p]?.getD 0 = 46 then some p else find1 text n (p + 1)

def Ends1 (o : Option Nat) (m : M) : Prop := match o with
  | some p => m.outcome = some .matched ∧ m.start = p ∧ m.handed = p + 1 ∧ m.marks = #[] ∧ m.lastmark = -1 ∧ m.lastindex = -1
  | none => m.outcome = some .failed

theorem at1_runs (text : Array Nat) (lim : Nat) : ∀ (n p : Nat) (first : Bool) (seen : Seen) (h0 : Nat), p + n = lim → ∃ k m, k ≤ 5 * n + 5 ∧ Goes k (at1 text lim p first seen h0) m ∧ Ends1 (find1 text n p) m
  | 0, p, first, seen, h0, e => by
    obtain ⟨m, n, h1, h2, h3⟩ := at1_end text lim p first seen h0 (by omega)
    exact ⟨n, m, by omega, h2, h3⟩
  | n + 1, p, first, seen, h0, e => by
    unfold find1
    by_cases hc : LineStart text p ∧ text[p]?.getD 0 = 46
    · rw [if_pos hc]
      obtain ⟨m, h1, h2⟩ := at1_yes text lim p first seen h0 (by omega) hc.1 hc.2
      exact ⟨5, m, by omega, h1, h2⟩
    · rw [if_neg hc]
      obtain ⟨k, seen', h0', hk, hg⟩ := at1_no text lim p first seen h0 (by omega) hc
      obtain ⟨k', m, hk', hg', he⟩ := at1_runs text lim n (p + 1) false seen' h0' (by omega)
      exact ⟨k + k', m, by omega, hg.trans hg', he⟩
theorem search1 (text : Array Nat) (lim p : Nat) (h : p ≤ lim) : ∃ k m, k ≤ 5 * lim + 6 ∧ Goes k (forSearch code1 text 0 p lim false) m ∧ Ends1 (find1 text (lim - p) p) m := by
  by_cases hp : p < lim
  · rw [search1_start text lim p hp]
    obtain ⟨k, m, hk, hg, he⟩ := at1_runs text lim (lim - p) p true _ p (by omega)
    exact ⟨k, m, by omega, hg, he⟩
  · obtain ⟨m, hg, he⟩ := search1_none text lim p hp
    have : lim - p = 0 := by omega
    rw [this]
    exact ⟨1, m, by omega, hg, he⟩
end Mine
end

/-! ## SreB -/
section
open PySem PySem.Sre
set_option maxRecDepth 100000
namespace Mine
/-- the machine where an attempt of the second pattern begins at p -/
def at2 (text : Array Nat) (lim p : Nat) (seen : Seen) : M :=
  { code := code2, text, lim, start := p, lastStart := lim, pc := 10, pos := p, handed := p, outermost := true, marks := #[], frames := [{ wait := .nextStart, pc := 10, pos := p, outermost := true }], weight := 1, seen }

def Found2 (p q : Nat) (m : M) : Prop := m.outcome = some .matched ∧ m.start = p ∧ m.handed = q ∧ m.marks = #[] ∧ m.lastmark = -1 ∧ m.lastindex = -1

set_option maxHeartbeats 4000000 in
theorem at2_lf (text : Array Nat) (lim p : Nat) (seen : Seen) (hp : p < lim) (hc : text[p]?.getD 0 = 10) : ∃ m, Goes 9 (at2 text lim p seen) m ∧ Found2 p (p + 1) m := by
  refine ⟨_, (Goes.one rfl).trans ((Goes.one ?_).trans ((Goes.one ?_).trans ((Goes.one ?_).trans ((Goes.one ?_).trans ((Goes.one ?_).trans ((Goes.one ?_).trans ((Goes.one ?_).trans (Goes.one ?_)))))))), ?_⟩
  all_goals simp [Found2, M.step, at2, M.exec, M.word, code2, ops, accepts, itemWidth, hc, M.say, M.resume, Nat.not_le.mpr hp, M.alternative, M.keep, M.attempt, M.frame, M.putBack]
set_option maxHeartbeats 4000000 in
theorem at2_crlf (text : Array Nat) (lim p : Nat) (seen : Seen) (hp : p < lim) (hc : text[p]?.getD 0 = 13) (hp1 : p + 1 < lim) (hd : text[p + 1]?.getD 0 = 10) : ∃ m, Goes 8 (at2 text lim p seen) m ∧ Found2 p (p + 2) m := by
  refine ⟨_, (Goes.one rfl).trans ((Goes.one ?_).trans ((Goes.one ?_).trans ((Goes.one ?_).trans ((Goes.one ?_).trans ((Goes.one ?_).trans ((Goes.one ?_).trans (Goes.one ?_))))))), ?_⟩
  all_goals simp [Found2, M.step, at2, M.exec, M.word, code2, ops, accepts, itemWidth, hc, hd, M.say, M.resume, Nat.not_le.mpr hp, Nat.not_le.mpr hp1, M.alternative, M.keep, M.attempt, M.frame, M.putBack]
set_option maxHeartbeats 8000000 in
theorem at2_crEnd (text : Array Nat) (lim p : Nat) (seen : Seen) (hp : p < lim) (hc : text[p]?.getD 0 = 13) (hp1 : lim ≤ p + 1) : ∃ m, Goes 15 (at2 text lim p seen) m ∧ Found2 p (p + 1) m := by
  refine ⟨_, (Goes.one rfl).trans ((Goes.one ?_).trans ((Goes.one ?_).trans ((Goes.one ?_).trans ((Goes.one ?_).trans ((Goes.one ?_).trans ((Goes.one ?_).trans ((Goes.one ?_).trans ((Goes.one ?_).trans ((Goes.one ?_).trans ((Goes.one ?_).trans ((Goes.one ?_).trans ((Goes.one ?_).trans ((Goes.one ?_).trans (Goes.one ?_)))))))))))))), ?_⟩
  all_goals simp [Found2, M.step, at2, M.exec, M.word, code2, ops, accepts, itemWidth, hc, M.say, M.resume, Nat.not_le.mpr hp, hp1, M.alternative, M.keep, M.attempt, M.frame, M.putBack]
set_option maxHeartbeats 8000000 in
theorem at2_cr (text : Array Nat) (lim p : Nat) (seen : Seen) (hp : p < lim) (hc : text[p]?.getD 0 = 13) (hp1 : p + 1 < lim) (hd : text[p + 1]?.getD 0 ≠ 10) : ∃ m, Goes 15 (at2 text lim p seen) m ∧ Found2 p (p + 1) m := by
  have hd' : (text[p + 1]?.getD 0 == 10) = false := beq_eq_false_iff_ne.mpr hd
  refine ⟨_, (Goes.one rfl).trans ((Goes.one ?_).trans ((Goes.one ?_).trans ((Goes.one ?_).trans ((Goes.one ?_).trans ((Goes.one ?_).trans ((Goes.one ?_).trans ((Goes.one ?_).trans ((Goes.one ?_).trans ((Goes.one ?_).trans ((Goes.one ?_).trans ((Goes.one ?_).trans ((Goes.one ?_).trans ((Goes.one ?_).trans (Goes.one ?_)))))))))))))), ?_⟩
  all_goals simp [Found2, M.step, at2, M.exec, M.word, code2, ops, accepts, itemWidth, hc, hd', M.say, M.resume, Nat.not_le.mpr hp, Nat.not_le.mpr hp1, M.alternative, M.keep, M.attempt, M.frame, M.putBack]

/-- the first return or feed from p on, n places tried -/
def findNl (text : Array Nat) : (n p : Nat) → Option Nat
  | 0, _ => none
  | n + 1, p => if text[p]?.getD 0 = 10 ∨ text[p]?.getD 0 = 13 then some p else findNl text n (p + 1)
theorem inSet2 (c : Nat) (seen : Seen) : ∃ seen', inSet code2 c code2.size 5 true seen = .ok (decide (c = 10 ∨ c = 13), seen') := by
  by_cases h : c = 10
  · subst h; exact ⟨_, by simp [inSet, code2, ops]; rfl⟩
  · by_cases h2 : c = 13
    · subst h2; exact ⟨_, by simp [inSet, code2, ops]; rfl⟩
    · exact ⟨_, by simp [inSet, code2, ops, h, h2]; rfl⟩
theorem admitted2 (m : M) (hm : m.code = code2) : ∀ (fuel s : Nat) (seen : Seen), s + fuel = m.lim + 1 → ∃ seen', M.admitted m fuel s seen = .ok (findNl m.text (m.lim - s) s, seen')
  | 0, s, seen, e => by
    refine ⟨seen, ?_⟩
    have : m.lim - s = 0 := by omega
    rw [this]; rfl
  | fuel + 1, s, seen, e => by
    unfold M.admitted
    by_cases h : s ≥ m.lim
    · rw [if_pos h]
      have : m.lim - s = 0 := by omega
      rw [this]; exact ⟨seen, rfl⟩
    · rw [if_neg h]
      obtain ⟨n, hn⟩ : ∃ n, m.lim - s = n + 1 := ⟨m.lim - s - 1, by omega⟩
      obtain ⟨seen', hs⟩ := inSet2 (m.text.getD s 0) seen
      rw [hm, hs, hn]
      unfold findNl
      rw [Array.getD_eq_getD_getElem?]
      by_cases hc : m.text[s]?.getD 0 = 10 ∨ m.text[s]?.getD 0 = 13
      · rw [if_pos hc, decide_eq_true hc]; exact ⟨_, rfl⟩
      · rw [if_neg hc, decide_eq_false hc]
        obtain ⟨s2, h2⟩ := admitted2 m hm fuel (s + 1) seen' (by omega)
        have : m.lim - (s + 1) = n := by omega
        rw [this] at h2
        exact ⟨s2, h2⟩
def end2 (text : Array Nat) (lim p : Nat) : Nat := if text[p]?.getD 0 = 13 ∧ p + 1 < lim ∧ text[p + 1]?.getD 0 = 10 then p + 2 else p + 1
def Ends2 (text : Array Nat) (lim : Nat) (o : Option Nat) (m : M) : Prop := match o with
  | some p => Found2 p (end2 text lim p) m
  | none => m.outcome = some .failed
theorem findNl_some (text : Array Nat) : ∀ (n p q : Nat), findNl text n p = some q → p ≤ q ∧ q < p + n ∧ (text[q]?.getD 0 = 10 ∨ text[q]?.getD 0 = 13)
  | 0, _, _, h => by cases h
  | n + 1, p, q, h => by
    unfold findNl at h
    split at h
    · rename_i hc
      cases h
      exact ⟨Nat.le_refl _, by omega, hc⟩
    · have := findNl_some text n (p + 1) q h
      exact ⟨by omega, by omega, this.2.2⟩
def pre2 (text : Array Nat) (lim p : Nat) : M := { code := code2, text, lim, start := p, lastStart := lim, pc := 10, pos := p, handed := p, marks := #[], seen := ({} : Seen).add 14 }
theorem pre2_from (text : Array Nat) (lim p : Nat) : (pre2 text lim p).attemptFrom p true = match M.admitted (pre2 text lim p) (lim + 1 - p) p (({} : Seen).add 14) with
  | .ok (some s, seen) => { pre2 text lim p with mustAdvance := false, seen }.attemptAt s true
  | .ok (none, seen) => { pre2 text lim p with seen }.say false
  | .error why => (pre2 text lim p).stick why := by
  unfold M.attemptFrom
  rw [if_neg (show ¬ ((!(pre2 text lim p).hasFirstSet) = true) from by rw [show (pre2 text lim p).hasFirstSet = true from rfl]; decide)]
  rfl
theorem attemptAt2 (text : Array Nat) (lim p q : Nat) (seen : Seen) : { pre2 text lim p with mustAdvance := false, seen := seen }.attemptAt q true = at2 text lim q seen := rfl
theorem search2 (text : Array Nat) (lim p : Nat) (h : p ≤ lim) : ∃ k m, k ≤ 15 ∧ Goes k (forSearch code2 text 0 p lim false) m ∧ Ends2 text lim (findNl text (lim - p) p) m := by
  by_cases hp : p < lim
  · have h1 : (decide (p > lim) || decide (lim - p < (header code2).1)) = false := by
      have : (header code2).1 = 1 := by decide
      rw [this]; simp; omega
    have e : forSearch code2 text 0 p lim false = (pre2 text lim p).attemptFrom p true := by
      unfold forSearch
      simp only []
      rw [if_neg (by rw [h1]; exact Bool.false_ne_true)]
      rfl
    obtain ⟨seen', ha⟩ := admitted2 (pre2 text lim p) rfl (lim + 1 - p) p (({} : Seen).add 14) (by show p + (lim + 1 - p) = lim + 1; omega)
    have ha' : M.admitted (pre2 text lim p) (lim + 1 - p) p (({} : Seen).add 14) = .ok (findNl text (lim - p) p, seen') := ha
    rw [e, pre2_from, ha']
    cases hf : findNl text (lim - p) p with
    | none => exact ⟨1, _, by decide, Goes.one rfl, rfl⟩
    | some q =>
      obtain ⟨h1, h2, h3⟩ := findNl_some _ _ _ _ hf
      have hq : q < lim := by omega
      show ∃ k m, k ≤ 15 ∧ Goes k (at2 text lim q seen') m ∧ Found2 q (end2 text lim q) m
      unfold end2
      rcases h3 with h3 | h3
      · rw [if_neg (by rw [h3]; intro x; exact absurd x.1 (by decide))]
        obtain ⟨m, hg, he⟩ := at2_lf text lim q seen' hq h3
        exact ⟨9, m, by decide, hg, he⟩
      · by_cases hq1 : q + 1 < lim
        · by_cases hd : text[q + 1]?.getD 0 = 10
          · rw [if_pos ⟨h3, hq1, hd⟩]
            obtain ⟨m, hg, he⟩ := at2_crlf text lim q seen' hq h3 hq1 hd
            exact ⟨8, m, by decide, hg, he⟩
          · rw [if_neg (fun x => hd x.2.2)]
            obtain ⟨m, hg, he⟩ := at2_cr text lim q seen' hq h3 hq1 hd
            exact ⟨15, m, by decide, hg, he⟩
        · rw [if_neg (fun x => hq1 x.2.1)]
          obtain ⟨m, hg, he⟩ := at2_crEnd text lim q seen' hq h3 (by omega)
          exact ⟨15, m, by decide, hg, he⟩
  · have h1 : (decide (p > lim) || decide (lim - p < (header code2).1)) = true := by
      have : (header code2).1 = 1 := by decide
      rw [this]; simp; omega
    have h2 : lim - p = 0 := by omega
    rw [h2]
    unfold forSearch
    simp only []
    rw [if_pos h1]
    exact ⟨1, _, by decide, Goes.one rfl, rfl⟩
end Mine
end

/-! ## SubF -/
section
open PySem PySem.W PySem.Calls PyProof.Rows PySem.Sre PySem.Builtin PySem.Builtin.Re
set_option maxRecDepth 100000
namespace Mine
theorem plainAttrs_pat : PlainAttrs "re.Pattern" :=
  ⟨⟨"object.__getattribute__", by rw [typeLookup_type, builtinLookup_eq_fast]; kernel_rfl, by decide +kernel⟩, by rw [typeLookup_type, builtinLookup_eq_fast]; kernel_rfl⟩
theorem slot_sub : Slot "re.Pattern" "sub" "re.Pattern.sub" :=
  .of (owner := "re.Pattern") (n := "sub") (by rw [typeLookup_type, builtinLookup_eq_fast]; kernel_rfl) (by decide +kernel) (by decide +kernel) (by decide +kernel)
    (by first | exact .inl (by decide +kernel) | exact .inr (by decide +kernel)) (by rw [isSubtype_type]; kernel_rfl)
theorem type_sub : typeOf (.builtin "re.Pattern.sub") = pure (.type "method_descriptor") := by show builtinType _ = _; rw [builtinType_eq_fast]; kernel_rfl
theorem entry_sub : entryFor table "re.Pattern.sub" = some Builtin.«re.Pattern.sub» := entryFor_of_tree (by kernel_rfl)
theorem entry_subLoop : entryFor table "re.Pattern.sub.loop" = some Builtin.«re.Pattern.sub.loop» := entryFor_of_tree (by kernel_rfl)
theorem owner_pat : Manifest.owners.lookup (String.ofList ['n', 'r', 'e', 't', 't', 'a', 'P', '.', 'e', 'r'].reverse) = some Manifest.sig_re_Pattern := by kernel_rfl
theorem args_sub (a b c : Value) : argsOk "re.Pattern.sub" ⟨[a, b, c], []⟩ := by
  unfold argsOk
  rw [signature?_of (id := "re.Pattern.sub") (n := ['b', 'u', 's']) (o := ['n', 'r', 'e', 't', 't', 'a', 'P', '.', 'e', 'r']) (by kernel_rfl) owner_pat]; kernel_rfl
theorem plain_loop : plainId "re.Pattern.sub.loop" = true := by decide +kernel

theorem runFor_add (a : Nat) : ∀ (b : Nat) (m : M), M.runFor (a + b) m = M.runFor b (M.runFor a m) := by
  induction a with
  | zero => intro b m; rw [Nat.zero_add]; rfl
  | succ a ih =>
    intro b m
    rw [Nat.add_right_comm]
    show (if m.outcome.isSome then m else M.runFor (a + b) m.step) = M.runFor b (if m.outcome.isSome then m else M.runFor a m.step)
    by_cases h : m.outcome.isSome = true
    · rw [if_pos h, if_pos h, runFor_done h]
    · rw [if_neg h, if_neg h, ih]

section
variable {Md : Model} {A : Around} {E : Value → Shared → Prop} {s : Shared}
theorem wpAny_reDrive {Q : M → Shared → Prop} {m' : M} (hm : m'.outcome.isSome = true) (h : Q m' s) : ∀ (turns k : Nat) (m : M), k ≤ 4 * turns → Goes k m m' → 0 < turns → wpAny Md A (reDrive turns m) Q E s
  | 0, _, _, _, _, h0 => absurd h0 (Nat.lt_irrefl _)
  | turns + 1, k, m, hk, hg, _ => by
    show wpAny Md A (if (M.runFor reTurnSteps m).outcome.isSome then pure (M.runFor reTurnSteps m) else do rule "sre.turn"; reDrive turns (M.runFor reTurnSteps m)) Q E s
    by_cases hd : (M.runFor reTurnSteps m).outcome.isSome = true
    · rw [if_pos hd]
      have e1 : M.runFor (reTurnSteps + k) m = M.runFor reTurnSteps m := by rw [runFor_add, runFor_done hd]
      have e2 : M.runFor (k + reTurnSteps) m = m' := by rw [hg, runFor_done hm]
      rw [Nat.add_comm, e2] at e1
      rw [← e1]
      exact wpAny_pure h
    · rw [if_neg hd]
      have hk4 : reTurnSteps < k := by
        refine Nat.lt_of_not_le fun hle => hd ?_
        rw [hg.done hm hle]; exact hm
      have h4 : reTurnSteps = 4 := rfl
      refine wpAny_bind (wpAny_rule (wpAny_reDrive hm h turns (k - 4) _ (by omega) (fun j => ?_) (by omega)))
      rw [← runFor_add, ← hg j]
      congr 1
      omega

theorem wpAny_rules {Q : PUnit → Shared → Prop} (c : Nat → Bool) (n : Nat → String) (h : Q ⟨⟩ s) : ∀ l : List Nat, wpAny Md A (forIn (m := Sem) l PUnit.unit fun i r => if c i then do rule (n i); pure (ForInStep.yield PUnit.unit) else pure (ForInStep.yield PUnit.unit)) Q E s := by
  intro l
  refine wpAny_forIn_list _ (fun _ _ s' => s' = s) Q (fun x rest b s' e => ?_) (fun b s' e => ?_) l _ rfl
  · subst e
    by_cases hc : c x = true
    · rw [if_pos hc]; exact wpAny_bind (wpAny_rule (wpAny_pure rfl))
    · rw [if_neg hc]; exact wpAny_pure rfl
  · subst e; exact h
theorem wpAny_runToEnd {Q : Option M → Shared → Prop} {k : Nat} {m m' : M} (hk : k ≤ 4 * 2 ^ 64) (hg : Goes k m m')
    (h : (m'.outcome = some .matched ∧ Q (some m') s) ∨ (m'.outcome = some .failed ∧ Q none s)) : wpAny Md A (reRunToEnd m) Q E s := by
  unfold reRunToEnd
  have hm : m'.outcome.isSome = true := by rcases h with h | h <;> rw [h.1] <;> rfl
  refine wpAny_bind (wpAny_reDrive hm ?_ (2 ^ 64) k m hk hg (by decide))
  refine wpAny_bind (wpAny_rules _ _ ?_ _)
  rcases h with ⟨e, h⟩ | ⟨e, h⟩ <;> (rw [e]; exact wpAny_pure h)

theorem wpAny_whole {Q : ReTarget → Shared → Prop} {a : Addr} {r : PySem.Flt.PatRec} {x : Str} {tx : Tok} (hP : PySem.Flt.IsPattern s.heap a r) (hg : r.groups = 0) (hk : r.kind = 0)
    (h : Q { pattern := .ref a, string := .str x tx, code := r.code.toArray, text := x.cps, kind := 0, groups := 0, pos := 0, lim := x.cps.size } s) : wpAny Md A (reWholeTarget (.ref a) (.str x tx)) Q E s := by
  obtain ⟨fs, T, ws, n, h1, h2, h3, h4, h5, h6⟩ := hP
  unfold reWholeTarget fieldsOf
  refine wpAny_bind (wpAny_bind (wpAny_load h1 ?_))
  dsimp only
  refine wpAny_pure ?_
  unfold reTextOf asStr?
  refine wpAny_bind (wpAny_bind (wpAny_pure ?_))
  dsimp only
  refine wpAny_pure ?_
  dsimp only
  rw [h2, h3, h4, hg, hk]
  rw [if_neg (by decide), if_neg (by decide)]
  unfold reNoCollectionInside
  refine wpAny_bind ?_
  rw [if_neg (by decide)]
  refine wpAny_pure ?_
  unfold reRawItems seqItems?
  refine wpAny_bind (wpAny_bind (wpAny_bind (wpAny_load h5 ?_)))
  dsimp only
  refine wpAny_pure (wpAny_pure ?_)
  refine wpAny_pure ?_
  have e : Array.map (fun x : Int => x.toNat) (Array.map reRawOf ws) = r.code.toArray := by rw [← h6]
  simp only [Option.getD_some]
  rw [e]
  exact h
end
end Mine
end

/-! ## Sub -/
section
open PySem PySem.W PySem.Calls PyProof.Rows PySem.Sre PySem.Builtin PySem.Builtin.Re
set_option maxRecDepth 100000
namespace Mine
/-- what is written for text from st on: the places that next finds become r -/
def subst (text : List Nat) (next : Nat → Option (Nat × Nat)) (r : List Nat) : (fuel st : Nat) → List Nat
  | 0, _ => []
  | f + 1, st => match next st with
    | some (p, q) => (text.drop st).take (p - st) ++ r ++ subst text next r f q
    | none => text.drop st
def EndsG (o : Option (Nat × Nat)) (m : M) : Prop := match o with
  | some (p, q) => m.outcome = some .matched ∧ m.start = p ∧ m.handed = q
  | none => m.outcome = some .failed
structure Finds (code : Array Nat) (text : Array Nat) (next : Nat → Option (Nat × Nat)) : Prop where
  run : ∀ st, st ≤ text.size → ∃ k m, k ≤ 1000000000 ∧ Goes k (forSearch code text 0 st text.size false) m ∧ EndsG (next st) m
  fwd : ∀ st p q, st ≤ text.size → next st = some (p, q) → st ≤ p ∧ p < q ∧ q ≤ text.size
section
variable {prog : Program} {w : World} {A : Around} {E : Value → Shared → Prop} {s : Shared}
theorem push_list {Md : Model} {p : Addr} {items : Array Value} {v : Value} {Q : Unit → Shared → Prop} (hL : s.heap.IsList p items) (hz : items.size ≤ 1000000)
    (h : ∀ h', Heap.SameBut p s.heap h' → h'.IsList p (items.push v) → Q () { s with heap := h' }) : wpAny Md A (updateSeq p fun x => x.push v) Q E s := by
  obtain ⟨⟨c, d, dt, sl⟩, ho, hc, n, hd⟩ := hL
  simp only at hc hd
  subst hc hd
  have hs : sizeLine = 16777216 := by decide
  refine wpAny_updateSeq ho rfl (h _ (Heap.SameBut.update ..) ?_) (by rw [hs]; omega) (by rw [hs, Array.size_push]; omega)
  exact ⟨_, Heap.get?_update_self _ ho rfl, rfl, _, rfl⟩
theorem pat_keeps {h h' : Heap} {a p : Addr} {items : Array Value} {rec : PySem.Flt.PatRec} (hP : PySem.Flt.IsPattern h a rec) (hL : h.IsList p items) (hs : Heap.SameBut p h h') : PySem.Flt.IsPattern h' a rec := by
  obtain ⟨o, ho, hc, n', hd⟩ := hL
  obtain ⟨fs, T, ws, n, h1, h2, h3, h4, h5, h6⟩ := hP
  have ha : a ≠ p := fun e => by
    rw [e, ho] at h1
    cases h1
    cases hd
  have hT : T ≠ p := fun e => by
    rw [e, ho] at h5
    have e5 := Option.some.inj h5
    rw [e5] at hc
    exact absurd (Value.type.inj hc) (by decide)
  exact ⟨fs, T, ws, n, (hs.2 a ha).trans h1, h2, h3, h4, (hs.2 T hT).trans h5, h6⟩
theorem strsAre_push {items : Array Value} {ys : List Str} (hi : StrsAre items.toList ys) (y : Str) (t : Tok) : StrsAre (items.push (.str y t)).toList (ys ++ [y]) := by
  rw [Array.toList_push]
  exact hi.append' (.cons y t .nil)
theorem slice_toList (x : Str) (b e : Nat) : (⟨x.cps.extract b e⟩ : Str) = S ((x.cps.toList.drop b).take (e - b)) := by
  apply Str.ext'
  apply Array.toList_inj.mp
  simp
theorem wpAny_slice {Md : Model} {Q : Value → Shared → Prop} {x : Str} {b e : Nat} (hx : x.length ≤ 100000) (h : ∀ t, Q (.str (S ((x.cps.toList.drop b).take (e - b))) t) { s with toks := s.toks + 1 }) : wpAny Md A (reSlice x.cps 0 b e) Q E s := by
  unfold reSlice
  rw [if_pos (by decide)]
  have hs : sizeLine = 16777216 := by decide
  rw [slice_toList]
  refine wpAny_mkStr (h _) ?_
  show (List.toArray _).size ≤ sizeLine
  rw [List.size_toArray, List.length_take, List.length_drop, Array.length_toList, hs]
  have : x.cps.size ≤ 100000 := hx
  omega

def endTree (x : Str) (p : Addr) (n : Int) : Sem Fin := do
  let joiner ← reSlice x.cps 0 0 0
  let text ← if ((← seqItems? (.ref p)).getD #[]).isEmpty then pure joiner else call (.builtin (if (0 : Nat) == 0 then "str.join" else "bytes.join")) [joiner, .ref p]
  if false then ret (← holding [text] do newTuple [text, ← mkInt n]) else ret text
theorem join_flat : ∀ ys : List Str, (Str.join (S []) ys).cps.toList = ys.flatMap (·.cps.toList)
  | [] => rfl
  | [y] => by simp [Str.join]
  | y :: z :: r => by
    show (y ++ S [] ++ Str.join (S []) (z :: r)).cps.toList = _
    rw [Str.cps_append, Array.toList_append, join_flat (z :: r), Str.cps_append]
    simp
theorem S_of (x : Str) : S x.cps.toList = x := by cases x; simp [S]
theorem wpAny_end {x : Str} {p : Addr} {n : Int} {ys : List Str} {items : Array Value} {Q : Fin → Shared → Prop} (hx : x.length ≤ 10000) (hL : s.heap.IsList p items) (hi : StrsAre items.toList ys) (hsum : (ys.map (·.length)).sum ≤ 1000000)
    (h : ∀ t' k, Q (.done (.ret (.str (S (ys.flatMap (·.cps.toList))) t'))) { s with toks := k }) : wpAny (model prog w) A (endTree x p n) Q E s := by
  unfold endTree
  refine wpAny_bind (wpAny_slice (by omega) fun t => ?_)
  obtain ⟨o, ho, hc, n', hd⟩ := id hL
  unfold seqItems?
  refine wpAny_bind (wpAny_bind (wpAny_load ho ?_))
  rw [hd]
  refine wpAny_pure ?_
  have ej : S ((x.cps.toList.drop 0).take (0 - 0)) = S [] := rfl
  by_cases hz : ys = []
  · subst hz
    cases hi' : items.toList with
    | cons a b => rw [hi'] at hi; cases hi
    | nil =>
      have : items = #[] := by rw [← Array.toList_inj, hi']
      subst this
      rw [if_pos (by rfl)]
      refine wpAny_bind (wpAny_pure ?_)
      dsimp only
      rw [if_neg (by decide)]
      exact wpAny_pure (h t _)
  · have hne : ¬ ((some items).getD #[]).isEmpty = true := by
      intro q
      have q' : items = #[] := by simpa using q
      rw [q'] at hi
      have := hi.len_eq
      exact hz (List.length_eq_zero_iff.mp this.symm)
    rw [if_neg hne]
    have hsl : (S ([] : List Nat)).length = 0 := rfl
    refine wpAny_bind (join_list (s := { s with toks := s.toks + 1 }) (x := S []) hL hi (by rw [hsl]; omega) fun t' k => ?_)
    dsimp only
    rw [if_neg (by decide)]
    refine wpAny_pure ?_
    have e : Txt.join (S []) ys = S (ys.flatMap (·.cps.toList)) := by
      unfold Txt.join
      rw [StrLaws.glued_eq_join, ← join_flat, S_of]
    rw [e]
    exact h t' k

theorem sub_loop {a p : Addr} {rec : PySem.Flt.PatRec} {x rr : Str} {tx tr : Tok} {next : Nat → Option (Nat × Nat)} {R : Result → Shared → Prop} (hg : rec.groups = 0) (hk : rec.kind = 0)
    (hF : Finds rec.code.toArray x.cps next) (hx : x.length ≤ 10000) (hrl : rr.length ≤ 8) :
    ∀ (fuel st : Nat) (n : Int) (ys : List Str) (items : Array Value) (s : Shared), x.length - st < fuel → st ≤ x.length → PySem.Flt.IsPattern s.heap a rec → s.heap.IsList p items → StrsAre items.toList ys →
      (ys.map (·.length)).sum ≤ 9 * st → ys.length ≤ 2 * st →
      (∀ t' h' k, Heap.SameBut p s.heap h' → R (.ok (.ret (.str (S ((ys.flatMap (·.cps.toList)) ++ subst x.cps.toList next rr.cps.toList fuel st)) t'))) { s with heap := h', toks := k }) →
      codeAny (model prog w) A (.builtin "re.Pattern.sub.loop" ⟨[.ref a, .str x tx, .str rr tr, rawInt 0, rawInt 0, rawInt n, rawInt st, rawInt st, .bool false, .ref p, .bool false], []⟩) R s := by
  intro fuel
  induction fuel with
  | zero => intro st n ys items s h; omega
  | succ fuel ih =>
    intro st n ys items s hfu hst hP hL hi hsum hlen hR
    have hxs : x.cps.size = x.length := rfl
    have hil : items.size = ys.length := by rw [← Array.length_toList, hi.len_eq]
    refine codeAny_builtin entry_subLoop ?_
    rw [Around.under_plainId plain_loop]
    unfold Builtin.«re.Pattern.sub.loop» rawInt
    dsimp only
    refine wpAny_bind (wpAny_whole hP hg hk ?_)
    rw [if_pos (by decide)]
    unfold reLiteralCannotBeTurned asStr?
    refine wpAny_bind (wpAny_bind (wpAny_pure ?_))
    rw [if_neg (show ¬ ((some rr).isNone = true) from Bool.false_ne_true)]
    refine wpAny_pure ?_
    rw [if_neg (by simp)]
    unfold reNextFound
    dsimp only
    rw [Int.toNat_natCast]
    obtain ⟨k, m, hkb, hgo, he⟩ := hF.run st hst
    have hfwd := hF.fwd st
    unfold subst at hR
    cases hn : next st with
    | none =>
      rw [hn] at he hR
      refine wpAny_bind (wpAny_runToEnd (by omega) hgo (.inr ⟨he, ?_⟩))
      dsimp only at hR ⊢
      by_cases hlt : st < x.cps.size
      · rw [if_pos hlt]
        refine wpAny_bind (wpAny_slice (by omega) fun t => ?_)
        refine wpAny_bind (push_list (s := { s with toks := s.toks + 1 }) hL (by omega) fun h1 hs1 hL1 => ?_)
        refine wpAny_end (x := x) (p := p) (n := n) hx hL1 (strsAre_push hi _ t) ?_ fun t' k => ?_
        · rw [List.map_append, List.sum_append]
          have : ((List.map (fun x : Str => x.length) [S (List.take (x.cps.size - st) (List.drop st x.cps.toList))])).sum ≤ x.length := by
            show (List.toArray _).size + 0 ≤ x.cps.size
            rw [List.size_toArray, List.length_take]
            omega
          omega
        · have := hR t' h1 k hs1
          rw [List.flatMap_append]
          have e : [S (List.take (x.cps.size - st) (List.drop st x.cps.toList))].flatMap (fun x => x.cps.toList) = List.drop st x.cps.toList := by
            have hl : (List.drop st x.cps.toList).length ≤ x.cps.size - st := by rw [List.length_drop, Array.length_toList]; omega
            rw [List.flatMap_cons, List.flatMap_nil, List.append_nil, List.take_of_length_le hl]
          rw [e]
          exact this
      · rw [if_neg hlt]
        refine wpAny_end (x := x) (p := p) (n := n) hx hL hi (by omega) fun t' k => ?_
        have := hR t' s.heap k (Heap.SameBut.refl _ _)
        rw [List.drop_eq_nil_of_le (by rw [Array.length_toList]; omega), List.append_nil] at this
        exact this
    | some pq =>
      obtain ⟨p0, q0⟩ := pq
      rw [hn] at he hR
      obtain ⟨he1, he2, he3⟩ := he
      obtain ⟨f1, f2, f3⟩ := hfwd p0 q0 hst hn
      refine wpAny_bind (wpAny_runToEnd (by omega) hgo (.inl ⟨he1, ?_⟩))
      dsimp only at hR ⊢
      rw [he2, he3]
      have hne : (q0 == p0) = false := beq_eq_false_iff_ne.mpr (by omega)
      rw [hne]
      have hitem : (Value.str rr tr != Value.none) = true := rfl
      by_cases hlt : st < p0
      · rw [if_pos hlt]
        refine wpAny_bind (wpAny_slice (by omega) fun t => ?_)
        refine wpAny_bind (push_list (s := { s with toks := s.toks + 1 }) hL (by omega) fun h1 hs1 hL1 => ?_)
        rw [if_pos (by decide)]
        refine wpAny_bind (wpAny_pure ?_)
        rw [if_pos hitem]
        refine wpAny_bind (push_list hL1 (by rw [Array.size_push]; omega) fun h2 hs2 hL2 => ?_)
        refine wpAny_pure ⟨plainId_quiet plain_loop _, ?_⟩
        have hsl : (S (List.take (p0 - st) (List.drop st x.cps.toList))).length ≤ p0 - st := by
          show (List.toArray _).size ≤ _
          rw [List.size_toArray, List.length_take]
          omega
        refine ih q0 (n + 1) (ys ++ [S (List.take (p0 - st) (List.drop st x.cps.toList))] ++ [rr]) _ _ (by omega) f3 (pat_keeps (pat_keeps hP hL hs1) hL1 hs2) hL2 (strsAre_push (strsAre_push hi _ t) rr tr) ?_ ?_ fun t' h' k hs' => ?_
        · rw [List.map_append, List.sum_append, List.map_append, List.sum_append]
          simp only [List.map_cons, List.map_nil, List.sum_cons, List.sum_nil]
          omega
        · simp only [List.length_append, List.length_cons, List.length_nil]
          omega
        · have := hR t' h' k ((hs1.trans hs2).trans hs')
          simp only [List.flatMap_append, List.flatMap_cons, List.flatMap_nil, List.append_nil, List.append_assoc] at this ⊢
          exact this
      · rw [if_neg hlt]
        rw [if_pos (by decide)]
        refine wpAny_bind (wpAny_pure ?_)
        (try dsimp only)
        rw [if_pos hitem]
        refine wpAny_bind (push_list hL (by omega) fun h2 hs2 hL2 => ?_)
        refine wpAny_pure ⟨plainId_quiet plain_loop _, ?_⟩
        refine ih q0 (n + 1) (ys ++ [rr]) _ _ (by omega) f3 (pat_keeps hP hL hs2) hL2 (strsAre_push hi rr tr) ?_ ?_ fun t' h' k hs' => ?_
        · rw [List.map_append, List.sum_append]
          simp only [List.map_cons, List.map_nil, List.sum_cons, List.sum_nil]
          omega
        · simp only [List.length_append, List.length_cons, List.length_nil]
          omega
        · have := hR t' h' k (hs2.trans hs')
          have e0 : p0 - st = 0 := by omega
          simp only [e0, List.take_zero, List.nil_append, List.flatMap_append, List.flatMap_cons, List.flatMap_nil, List.append_nil, List.append_assoc] at this ⊢
          exact this
end

theorem reNamed_sub (a b : Value) : reNamed "re.Pattern.sub" "sub" ["repl", "string", "count"] 2 [a, b] [] = pure [some a, some b, none] := by kernel_rfl
theorem str_no_call : typeLookup (.type "str") "__call__" = pure none := by rw [typeLookup_type, builtinLookup_eq_fast]; kernel_rfl
section
variable {prog : Program} {w : World} {A : Around} {E : Value → Shared → Prop} {s : Shared}
/-- pattern.sub(repl, text) -/
theorem call_sub {a : Addr} {rec : PySem.Flt.PatRec} {x rr : Str} {tx tr : Tok} {next : Nat → Option (Nat × Nat)} {Q : Value → Shared → Prop} (hg : rec.groups = 0) (hk : rec.kind = 0) (hP : PySem.Flt.IsPattern s.heap a rec)
    (hF : Finds rec.code.toArray x.cps next) (hx : x.length ≤ 10000) (hrl : rr.length ≤ 8) (hbs : rr.cps.contains 92 = false)
    (h : ∀ t' h' k, s.heap.StaysIn h' → Q (.str (S (subst x.cps.toList next rr.cps.toList (x.length + 1) 0)) t') { s with heap := h', toks := k }) :
    wpAny (model prog w) A (call (.builtin "re.Pattern.sub") [.ref a, .str rr tr, .str x tx]) Q E s := by
  have hT : s.TypeIs (.ref a) "re.Pattern" := by
    obtain ⟨fs, T, ws, n, h1, _⟩ := hP
    exact ⟨_, h1, rfl⟩
  refine wpAny_call (codeAny_call_builtin slot_sub.plain entry_sub (slot_sub.check _ _ _ _ _ _ _ _ hT (args_sub _ _ _) ?_))
  unfold Builtin.«re.Pattern.sub» reSubstitute
  dsimp only
  refine wpAny_bind (wpAny_of_eq (reNamed_sub _ _) ?_)
  dsimp only
  refine wpAny_bind (wpAny_pure ?_)
  refine wpAny_bind (wpAny_specialOf (typeIs_str _ _ _) str_no_call ?_)
  rw [if_neg (by decide)]
  unfold asStr?
  refine wpAny_bind (wpAny_pure ?_)
  dsimp only
  refine wpAny_bind (wpAny_pure ?_)
  rw [hbs, if_neg (by decide), if_pos (by decide)]
  refine wpAny_bind (wpAny_pure ?_)
  dsimp only
  refine wpAny_bind (wpAny_holding (wpAny_whole hP hg hk ?_))
  rw [if_neg (by decide)]
  refine wpAny_bind (wpAny_newList ?_)
  refine wpAny_pure ⟨plainId_quiet plain_loop _, ?_⟩
  have hl : (s.heap.push { cls := .type "list", data := .seq ([] : List Value).toArray }).IsList s.heap.objs.size #[] := ⟨_, Heap.get?_push_size _ rfl, rfl, 0, rfl⟩
  refine sub_loop (s := { s with heap := s.heap.push { cls := .type "list", data := .seq ([] : List Value).toArray } }) hg hk hF hx hrl (x.length + 1) 0 0 [] #[] (by omega) (Nat.zero_le _) (hP.keeps fun b o e => Heap.get?_push_of_some _ e) hl .nil (Nat.zero_le _) (Nat.zero_le _) fun t' h' k hs => ?_
  refine h t' h' k fun b o e => ?_
  have hb : b ≠ s.heap.objs.size := Nat.ne_of_lt (Heap.lt_size e)
  exact (hs.2 b hb).trans (Heap.get?_push_of_some _ e)
theorem getMethod_sub {Md : Model} {a : Addr} {rec : PySem.Flt.PatRec} {pl : Sem Bool} {Q : Value × List Value → Shared → Prop} (hP : PySem.Flt.IsPattern s.heap a rec) (h : Q (.builtin "re.Pattern.sub", [.ref a]) s) :
    wpAny Md A (getMethod (.ref a) "sub" pl) Q E s := by
  obtain ⟨fs, T, ws, n, h1, _⟩ := hP
  exact getMethod_builtin ⟨_, h1, rfl⟩ plainAttrs_pat slot_sub type_sub (fun b e => by cases e; exact ⟨_, h1, rfl⟩) h
end
end Mine
end

/-! ## Quote -/
section
open PySem PySem.W PySem.Calls PyProof.Rows PySem.Sre
set_option maxRecDepth 100000
namespace Mine
/-- every line end becomes return and feed -/
def normL : List Nat → List Nat
  | [] => []
  | c :: r => if c = 13 then (match r with
      | d :: r' => if d = 10 then 13 :: 10 :: normL r' else 13 :: 10 :: normL (d :: r')
      | [] => [13, 10])
    else if c = 10 then 13 :: 10 :: normL r else c :: normL r
/-- a dot at a line's start becomes two -/
def dotsL : Bool → List Nat → List Nat
  | _, [] => []
  | b, c :: r => (if b = true ∧ c = 46 then [46, 46] else [c]) ++ dotsL (decide (c = 10)) r
def next1 (text : Array Nat) (st : Nat) : Option (Nat × Nat) := (find1 text (text.size - st) st).map fun p => (p, p + 1)
def next2 (text : Array Nat) (st : Nat) : Option (Nat × Nat) := (findNl text (text.size - st) st).map fun p => (p, end2 text text.size p)

theorem find1_some (text : Array Nat) : ∀ (n p q : Nat), find1 text n p = some q → p ≤ q ∧ q < p + n
  | 0, _, _, h => by cases h
  | n + 1, p, q, h => by
    unfold find1 at h
    split at h
    · cases h; exact ⟨Nat.le_refl _, by omega⟩
    · have := find1_some text n (p + 1) q h
      exact ⟨by omega, by omega⟩
theorem finds1 (text : Array Nat) (ht : text.size ≤ 100000) : Finds code1 text (next1 text) := by
  refine ⟨fun st hst => ?_, fun st p q hst h => ?_⟩
  · obtain ⟨k, m, hk, hg, he⟩ := search1 text text.size st hst
    refine ⟨k, m, by omega, hg, ?_⟩
    unfold next1
    cases hf : find1 text (text.size - st) st with
    | none => rw [hf] at he; exact he
    | some p => rw [hf] at he; exact ⟨he.1, he.2.1, he.2.2.1⟩
  · unfold next1 at h
    cases hf : find1 text (text.size - st) st with
    | none => rw [hf] at h; cases h
    | some p' =>
      rw [hf] at h
      cases h
      have := find1_some _ _ _ _ hf
      exact ⟨this.1, by omega, by omega⟩
theorem finds2 (text : Array Nat) (ht : text.size ≤ 100000) : Finds code2 text (next2 text) := by
  refine ⟨fun st hst => ?_, fun st p q hst h => ?_⟩
  · obtain ⟨k, m, hk, hg, he⟩ := search2 text text.size st hst
    refine ⟨k, m, by omega, hg, ?_⟩
    unfold next2
    cases hf : findNl text (text.size - st) st with
    | none => rw [hf] at he; exact he
    | some p => rw [hf] at he; exact ⟨he.1, he.2.1, he.2.2.1⟩
  · unfold next2 at h
    cases hf : findNl text (text.size - st) st with
    | none => rw [hf] at h; cases h
    | some p' =>
      rw [hf] at h
      cases h
      have := findNl_some _ _ _ _ hf
      unfold end2
      refine ⟨this.1, ?_, ?_⟩ <;> split <;> omega

theorem drop_cons (l : List Nat) (st : Nat) (h : st < l.length) : l.drop st = l[st]?.getD 0 :: l.drop (st + 1) := by
  rw [List.drop_eq_getElem_cons h, List.getElem?_eq_getElem h]; rfl
theorem normL_plain (c : Nat) (r : List Nat) (h : ¬ (c = 10 ∨ c = 13)) : normL (c :: r) = c :: normL r := by
  conv => lhs; unfold normL
  rw [if_neg (fun e => h (.inr e)), if_neg (fun e => h (.inl e))]
theorem normL_lf (r : List Nat) : normL (10 :: r) = 13 :: 10 :: normL r := by
  conv => lhs; unfold normL
  rw [if_neg (by decide), if_pos rfl]
theorem normL_crlf (r : List Nat) : normL (13 :: 10 :: r) = 13 :: 10 :: normL r := by
  conv => lhs; unfold normL
  rw [if_pos rfl]
  dsimp only
  rw [if_pos rfl]
theorem normL_cr (d : Nat) (r : List Nat) (h : d ≠ 10) : normL (13 :: d :: r) = 13 :: 10 :: normL (d :: r) := by
  conv => lhs; unfold normL
  rw [if_pos rfl]
  dsimp only
  rw [if_neg h]
theorem normL_crEnd : normL [13] = [13, 10] := rfl
theorem dotsL_cons (b : Bool) (c : Nat) (r : List Nat) : dotsL b (c :: r) = (if b = true ∧ c = 46 then [46, 46] else [c]) ++ dotsL (decide (c = 10)) r := by
  conv => lhs; unfold dotsL
theorem norm_none (l : List Nat) : ∀ (n st : Nat), st + n = l.length → findNl l.toArray n st = none → normL (l.drop st) = l.drop st
  | 0, st, e, _ => by rw [List.drop_eq_nil_of_le (by omega)]; rfl
  | n + 1, st, e, h => by
    unfold findNl at h
    split at h
    · cases h
    · rename_i hc
      rw [drop_cons l st (by omega)]
      rw [List.getElem?_toArray] at hc
      rw [normL_plain _ _ hc, norm_none l n (st + 1) (by omega) h]
theorem norm_some (l : List Nat) : ∀ (n st p : Nat), st + n = l.length → findNl l.toArray n st = some p →
    normL (l.drop st) = (l.drop st).take (p - st) ++ [13, 10] ++ normL (l.drop (end2 l.toArray l.length p))
  | 0, st, p, e, h => by cases h
  | n + 1, st, p, e, h => by
    unfold findNl at h
    split at h
    · rename_i hc
      cases h
      rw [Nat.sub_self, List.take_zero, List.nil_append]
      rw [List.getElem?_toArray] at hc
      unfold end2
      rw [List.getElem?_toArray, List.getElem?_toArray]
      rw [drop_cons l st (by omega)]
      rcases hc with hc | hc
      · rw [hc, if_neg (by omega), normL_lf]
        rfl
      · rw [hc]
        by_cases h1 : st + 1 < l.length
        · rw [drop_cons l (st + 1) h1]
          by_cases hd : l[st + 1]?.getD 0 = 10
          · rw [if_pos ⟨rfl, h1, hd⟩, hd, normL_crlf]
            rfl
          · rw [if_neg (fun x => hd x.2.2), normL_cr _ _ hd, ← drop_cons l (st + 1) h1]
            rfl
        · rw [if_neg (fun x => h1 x.2.1), List.drop_eq_nil_of_le (by omega)]
          rfl
    · rename_i hc
      have hf := findNl_some _ _ _ _ h
      rw [List.getElem?_toArray] at hc
      rw [drop_cons l st (by omega), normL_plain _ _ hc, norm_some l n (st + 1) p (by omega) h]
      have : p - st = (p - (st + 1)) + 1 := by omega
      rw [this, List.take_succ_cons]
      rfl
theorem subst_norm (l : List Nat) : ∀ (fuel st : Nat), l.length - st < fuel → st ≤ l.length → subst l (next2 l.toArray) [13, 10] fuel st = normL (l.drop st) := by
  intro fuel
  induction fuel with
  | zero => intro st h; omega
  | succ fuel ih =>
    intro st hf hst
    unfold subst next2
    rw [List.size_toArray]
    cases h : findNl l.toArray (l.length - st) st with
    | none => exact (norm_none l _ st (by omega) h).symm
    | some p =>
      have hb := findNl_some _ _ _ _ h
      show _ ++ _ ++ subst l (next2 l.toArray) [13, 10] fuel (end2 l.toArray l.length p) = _
      have he : end2 l.toArray l.length p ≤ l.length ∧ p < end2 l.toArray l.length p := by
        unfold end2; split <;> omega
      rw [ih _ (by omega) he.1, norm_some l _ st p (by omega) h]

theorem dots_step (l : List Nat) (st : Nat) (h : st < l.length) : dotsL (decide (LineStart l.toArray st)) (l.drop st) =
    (if LineStart l.toArray st ∧ l.toArray[st]?.getD 0 = 46 then [46, 46] else [l[st]?.getD 0]) ++ dotsL (decide (LineStart l.toArray (st + 1))) (l.drop (st + 1)) := by
  rw [drop_cons l st h, dotsL_cons]
  have e : decide (LineStart l.toArray (st + 1)) = decide (l[st]?.getD 0 = 10) := by
    unfold LineStart
    simp
  rw [e]
  simp only [decide_eq_true_eq, List.getElem?_toArray]
theorem dots_none (l : List Nat) : ∀ (n st : Nat), st + n = l.length → find1 l.toArray n st = none → dotsL (decide (LineStart l.toArray st)) (l.drop st) = l.drop st
  | 0, st, e, _ => by rw [List.drop_eq_nil_of_le (by omega)]; unfold dotsL; rfl
  | n + 1, st, e, h => by
    unfold find1 at h
    split at h
    · cases h
    · rename_i hc
      rw [dots_step l st (by omega), if_neg hc, dots_none l n (st + 1) (by omega) h, drop_cons l st (by omega)]
      rfl
theorem dots_some (l : List Nat) : ∀ (n st p : Nat), st + n = l.length → find1 l.toArray n st = some p →
    dotsL (decide (LineStart l.toArray st)) (l.drop st) = (l.drop st).take (p - st) ++ [46, 46] ++ dotsL (decide (LineStart l.toArray (p + 1))) (l.drop (p + 1))
  | 0, st, p, e, h => by cases h
  | n + 1, st, p, e, h => by
    have hf := find1_some _ _ _ _ h
    unfold find1 at h
    split at h
    · rename_i hc
      cases h
      rw [Nat.sub_self, List.take_zero, List.nil_append, dots_step l st (by omega), if_pos hc]
    · rename_i hc
      have hf' := find1_some _ _ _ _ h
      rw [dots_step l st (by omega), if_neg hc, dots_some l n (st + 1) p (by omega) h]
      have : p - st = (p - (st + 1)) + 1 := by omega
      rw [this, drop_cons l st (by omega), List.take_succ_cons]
      rfl
theorem subst_dots (l : List Nat) : ∀ (fuel st : Nat), l.length - st < fuel → st ≤ l.length → subst l (next1 l.toArray) [46, 46] fuel st = dotsL (decide (LineStart l.toArray st)) (l.drop st) := by
  intro fuel
  induction fuel with
  | zero => intro st h; omega
  | succ fuel ih =>
    intro st hf hst
    unfold subst next1
    rw [List.size_toArray]
    cases h : find1 l.toArray (l.length - st) st with
    | none => exact (dots_none l _ st (by omega) h).symm
    | some p =>
      have hb := find1_some _ _ _ _ h
      show _ ++ _ ++ subst l (next1 l.toArray) [46, 46] fuel (p + 1) = _
      rw [ih _ (by omega) (by omega), dots_some l _ st p (by omega) h]
/-- what quotedata writes -/
def quoteL (l : List Nat) : List Nat := dotsL true (normL l)
theorem normL_length : ∀ l : List Nat, (normL l).length ≤ 2 * l.length
  | [] => Nat.zero_le _
  | c :: r => by
    unfold normL
    split
    · split
      · rename_i d r'
        have := normL_length r'
        have := normL_length (d :: r')
        split <;> simp only [List.length_cons] at * <;> omega
      · simp
    · have := normL_length r
      split <;> simp only [List.length_cons] at * <;> omega
end Mine
end

/-! ## CQuote -/
section
open PySem PySem.W PySem.Calls PyProof.Rows
set_option maxRecDepth 100000
namespace Mine
local macro_rules | `(tactic| walk_at $s:str) => `(tactic| k_extra $s)

abbrev rec1 : PySem.Flt.PatRec := ⟨Str.ofString "p", code1.toList, 0, 0⟩
abbrev rec2 : PySem.Flt.PatRec := ⟨Str.ofString "p", code2.toList, 0, 0⟩
theorem pat36 {w : World} {h : Heap} (X : (hd.heap_39 w.params).In h) : PySem.Flt.IsPattern h 36 rec1 :=
  ⟨_, 35, _, _, X 36 _ (by with_unfolding_all rfl), by with_unfolding_all rfl, by with_unfolding_all rfl, by with_unfolding_all rfl, X 35 _ (by with_unfolding_all rfl), by with_unfolding_all rfl⟩
theorem pat41 {w : World} {h : Heap} (X : (hd.heap_39 w.params).In h) : PySem.Flt.IsPattern h 41 rec2 :=
  ⟨_, 40, _, _, X 41 _ (by with_unfolding_all rfl), by with_unfolding_all rfl, by with_unfolding_all rfl, by with_unfolding_all rfl, X 40 _ (by with_unfolding_all rfl), by with_unfolding_all rfl⟩
section
variable {prog : Program} {w : World} {A : Around} {E : Value → Shared → Prop} {s : Shared} {h₀ : Heap} {L : Addr} {m : Str → Option Value} {news : List (Addr × Obj)} {l : List Nat} {tr tx : Tok} {Q : Value → Shared → Prop}
theorem quote1 (F : Fr h₀ L s.heap m) (N : News h₀ L s.heap news) (X : (hd.heap_39 w.params).In h₀) (hx : l.length ≤ 1000) (h : ∀ t' h' k, Fr h₀ L h' m → News h₀ L h' news → Q (.str (S (dotsL true l)) t') { s with heap := h', toks := k }) :
    wpAny (model prog w) A (call (.builtin "re.Pattern.sub") [.ref 36, .str (Str.ofString "..") tr, .str (S l) tx]) Q E s := by
  refine call_sub (rec := rec1) rfl rfl (pat36 (X.keeps F.keep)) (finds1 (S l).cps (by show l.toArray.size ≤ _; rw [List.size_toArray]; omega)) (by show l.toArray.size ≤ _; rw [List.size_toArray]; omega) (by decide) (by decide +kernel) fun t' h' k st => ?_
  have e : subst (S l).cps.toList (next1 (S l).cps) (Str.ofString "..").cps.toList ((S l).length + 1) 0 = dotsL true l := by
    have := subst_dots l (l.length + 1) 0 (by omega) (Nat.zero_le _)
    rw [List.drop_zero] at this
    show subst l (next1 l.toArray) [46, 46] (l.toArray.size + 1) 0 = _
    rw [List.size_toArray, this]
    simp [LineStart]
  rw [e]
  exact h t' h' k (F.grownK st) (N.grown st)
theorem quote2 (F : Fr h₀ L s.heap m) (N : News h₀ L s.heap news) (X : (hd.heap_39 w.params).In h₀) (hx : l.length ≤ 1000) (h : ∀ t' h' k, Fr h₀ L h' m → News h₀ L h' news → (normL l).length ≤ 2 * l.length → Q (.str (S (normL l)) t') { s with heap := h', toks := k }) :
    wpAny (model prog w) A (call (.builtin "re.Pattern.sub") [.ref 41, .str (Str.ofString "\r\n") tr, .str (S l) tx]) Q E s := by
  refine call_sub (rec := rec2) rfl rfl (pat41 (X.keeps F.keep)) (finds2 (S l).cps (by show l.toArray.size ≤ _; rw [List.size_toArray]; omega)) (by show l.toArray.size ≤ _; rw [List.size_toArray]; omega) (by decide) (by decide +kernel) fun t' h' k st => ?_
  have e : subst (S l).cps.toList (next2 (S l).cps) (Str.ofString "\r\n").cps.toList ((S l).length + 1) 0 = normL l := by
    have := subst_norm l (l.length + 1) 0 (by omega) (Nat.zero_le _)
    rw [List.drop_zero] at this
    show subst l (next2 l.toArray) [13, 10] (l.toArray.size + 1) 0 = _
    rw [List.size_toArray, this]
  rw [e]
  exact h t' h' k (F.grownK st) (N.grown st) (normL_length l)
end
set_option maxHeartbeats 8000000 in
theorem c_quote (w : World) (mean : ExcName → Option Value) (mg mb : Str → Option Value) (l : List Nat) (t : Tok) (hx : l.length ≤ 100) :
    Says w mean mg mb 1 48 [.str (S l) t] (fun _ => True) (fun r => ∃ t', r = .str (S (quoteL l)) t') := by
  w_top off
  k_with_none
  k_with "getMethod ref" => ((k_here; (with_reducible show wpAny _ _ (getMethod (Value.ref _) (Str.ofString "sub") _) _ _ _); k_dflt (first | refine getMethod_sub (pat36 (w := _) (by k_in)) ?_ | refine getMethod_sub (pat41 (by k_in)) ?_)))
  k_with "call builtin:re.Pattern.sub" => ((k_here; k_dflt (first | (refine' quote1 ?zqF ?zqN ?zqX ?zqx ?_; (case zqF => k_asm); (case zqN => k_asm); (case zqX => k_asm); (case zqx => omega); k_whole; intro _ _ _ _ _; k_sweep) | (refine' quote2 ?zqF ?zqN ?zqX ?zqx ?_; (case zqF => k_asm); (case zqN => k_asm); (case zqX => k_asm); (case zqx => omega); k_whole; intro _ _ _ _ _ _; k_sweep))))
  unfold Says
  k_fill
  intro dp un gd cn cs a ccd cl outer A₀ base h₀ L m s Q E B F X T hk hd hu hp hret
  refine wpAny_call ?_
  (refine' enter0 ?k1 ?k2 ?k3 ?k5 ?kA ?kF ?kK ?k6 ?k7 ?k8 ?k9 ?kB ?kP ?_ ?c5 ?c2 ?c3 ?c4; (case kA => exact rfl); (case kF => exact rfl); (case kK => assumption); (case k1 => k_asm); (case k2 => k_asm); (case k3 => k_asm); (case k5 => k_asm); (case k6 => k_is); (case k7 => k_is); (case k8 => ktr_room); (case k9 => first | exact BindsTo.of_eq rfl | exact binds_K (by k_in) rfl (by k_is) rfl rfl rfl); (case c5 => decide); (case kB => exact locs rfl); (case kP => exact Nat.succ_pos _); (case c2 => exact rfl); (case c3 => exact rfl); (case c4 => exact rfl); k_whole; intro L' h' tk htk F' N' B' X' T'; (try dsimp only); (try k_lift B'); (try k_fold))
  k_steps
  all_goals exact hret _ _ _ (by assumption) ⟨_, rfl⟩
end Mine
end

/-! ## CParam -/
section
open PySem PySem.W PySem.Calls PyProof.Rows
set_option maxRecDepth 100000
namespace Mine
local macro_rules | `(tactic| walk_at $s:str) => `(tactic| k_extra $s)
theorem param_size (a : List Nat) (h : a.length ≤ 1000000) : (Str.empty ++ Str.ofString "p" ++ Str.ofString "=\"" ++ S a).length ≤ sizeLine ∧ (Str.empty ++ Str.ofString "p" ++ Str.ofString "=\"" ++ S a ++ Str.ofString "\"").length ≤ sizeLine := by
  have h0 : sizeLine = 16777216 := by decide
  have h1 : Str.empty.length = 0 := by decide
  have h2 : (Str.ofString "\"").length = 1 := by decide
  have h3 : (S a).length = a.length := List.size_toArray ..
  have h4 : (Str.ofString "p").length = 1 := by decide
  have h5 : (Str.ofString "=\"").length = 2 := by decide
  simp only [Str.length_append, h1, h2, h3, h4, h5, h0]
  omega
theorem param_text (a : List Nat) : Str.empty ++ Str.ofString "p" ++ Str.ofString "=\"" ++ S a ++ Str.ofString "\"" = S ([112, 61, 34] ++ a ++ [34]) := by
  apply Str.ext'
  apply Array.toList_inj.mp
  simp only [Str.cps_append, Array.toList_append]
  rfl
set_option maxHeartbeats 8000000 in
theorem c_param (w : World) (mean : ExcName → Option Value) (mg mb : Str → Option Value) (l : List Nat) (t1 t2 t3 : Tok) (hx : l.length ≤ 100) :
    Says w mean mg mb 1 69 [.str (Str.ofString "p") t1, .str (S l) t2, .int 1 t3] (fun _ => True) (fun r => ∃ t', r = .str (S (if l = [] then [112] else [112, 61, 34] ++ sub1 34 [92, 34] (sub1 92 [92, 92] l) ++ [34])) t') := by
  w_top off
  k_with_none
  k_with "execs nil" => ((k_here; (with_reducible show wpAny _ _ _ _ _ (Shared.mk _ _ _ (_ + 1) _)); refine gen_toks (Nat.succ_pos _) ?_; intro tk htk))
  k_with "execs cons" => ((k_here; (with_reducible show wpAny _ _ _ _ _ (Shared.mk _ _ _ (_ + 1) _)); refine gen_toks (Nat.succ_pos _) ?_; intro tk htk))
  k_with "call builtin:str.replace" => (((with_reducible show wpAny _ _ (call (Value.builtin "str.replace") [Value.str _ _, Value.str _ _, Value.str _ _]) _ _ _); k_dflt (refine replaceC ?zqhs ?zqhu ?zqhv ?zqhuv ?zqhyz ?zqhx ?zqhz ?zqhy ?_; (case zqhs => (dsimp only; omega)); (case zqhu => (show @Ne Nat _ _; omega)); (case zqhv => (show @Ne Nat _ _; omega)); (case zqhuv => (show @Ne Nat _ _; omega)); (case zqhyz => decide); (case zqhx => omega); (case zqhz => decide); (case zqhy => decide); intro _ _ _ _)))
  k_with "call builtin:len" => (((with_reducible show wpAny _ _ (call (Value.builtin "len") [Value.str _ _]) _ _ _); k_dflt (refine lenS ?zqh ?_; (case zqh => omega))))
  k_with "joinParts" => ((k_here; (with_reducible show wpAny _ _ (joinParts _ (evalEach [] _)) _ _ _); k_dflt (refine joinParts_nil ?_ ?zqz; (case zqz => exact (param_size _ (by omega)).2))))
  k_with "le" => ((k_dflt (first | exact (param_size _ (by omega)).1 | exact (param_size _ (by omega)).2)))
  unfold Says
  k_fill
  intro dp un gd cn cs a ccd cl outer A₀ base h₀ L m s Q E B F X T hk hd hu hp hret
  refine wpAny_call ?_
  (refine' enter0 ?k1 ?k2 ?k3 ?k5 ?kA ?kF ?kK ?k6 ?k7 ?k8 ?k9 ?kB ?kP ?_ ?c5 ?c2 ?c3 ?c4; (case kA => exact rfl); (case kF => exact rfl); (case kK => assumption); (case k1 => k_asm); (case k2 => k_asm); (case k3 => k_asm); (case k5 => k_asm); (case k6 => k_is); (case k7 => k_is); (case k8 => ktr_room); (case k9 => first | exact BindsTo.of_eq rfl | exact binds_K (by k_in) rfl (by k_is) rfl rfl rfl); (case c5 => decide); (case kB => exact locs rfl); (case kP => exact Nat.succ_pos _); (case c2 => exact rfl); (case c3 => exact rfl); (case c4 => exact rfl); k_whole; intro L' h' tk htk F' N' B' X' T'; (try dsimp only); (try k_lift B'); (try k_fold))
  k_steps
  all_goals first
    | (rw [param_text]; refine hret _ _ _ (by assumption) ?_; show ∃ t', _ = _; rw [if_neg (by rintro rfl; simp at *)]; exact ⟨_, rfl⟩)
    | (refine hret _ _ _ (by assumption) ?_; show ∃ t', _ = _; rw [if_pos (List.length_eq_zero_iff.mp (by omega))]; exact ⟨_, rfl⟩)
end Mine
end

/-! ## CSign -/
section
open PySem PySem.W PySem.Calls PyProof.Rows
set_option maxRecDepth 100000
namespace Mine
local macro_rules | `(tactic| walk_at $s:str) => `(tactic| k_extra $s)
set_option maxHeartbeats 8000000 in
theorem c_sign (w : World) (mean : ExcName → Option Value) (mg mb : Str → Option Value) (x : Int) (t : Tok) :
    Says w mean mg mb 1 118 [.int x t] (fun _ => True) (fun r => ∃ c t', r = .str (S [c]) t') := by
  w_top off
  k_with_none
  unfold Says
  k_fill
  intro dp un gd cn cs a ccd cl outer A₀ base h₀ L m s Q E B F X T hk hd hu hp hret
  refine wpAny_call ?_
  (refine' enter0 ?k1 ?k2 ?k3 ?k5 ?kA ?kF ?kK ?k6 ?k7 ?k8 ?k9 ?kB ?kP ?_ ?c5 ?c2 ?c3 ?c4; (case kA => exact rfl); (case kF => exact rfl); (case kK => assumption); (case k1 => k_asm); (case k2 => k_asm); (case k3 => k_asm); (case k5 => k_asm); (case k6 => k_is); (case k7 => k_is); (case k8 => ktr_room); (case k9 => first | exact BindsTo.of_eq rfl | exact binds_K (by k_in) rfl (by k_is) rfl rfl rfl); (case c5 => decide); (case kB => exact locs rfl); (case kP => exact Nat.succ_pos _); (case c2 => exact rfl); (case c3 => exact rfl); (case c4 => exact rfl); k_whole; intro L' h' tk htk F' N' B' X' T'; (try dsimp only); (try k_lift B'); (try k_fold))
  k_steps
  all_goals exact hret _ _ _ (by assumption) ⟨_, _, rfl⟩
end Mine
end

/-! ## Defs -/
section
open PySem PySem.W PySem.Calls PyProof.Rows
set_option maxRecDepth 100000
namespace Mine
def E2 (l : List Nat) : List Nat := sub1 62 (Str.ofString "&gt;").cps.toList (sub1 60 (Str.ofString "&lt;").cps.toList (sub1 38 (Str.ofString "&amp;").cps.toList l))
def E3 (l : List Nat) : List Nat := sub1 13 (Str.ofString "&#xD;").cps.toList (E2 l)
def E4 (l : List Nat) : List Nat := sub1 34 (Str.ofString "&quot;").cps.toList (sub1 62 (Str.ofString "&gt;").cps.toList (sub1 38 (Str.ofString "&amp;").cps.toList l))
def E5 (l : List Nat) : List Nat := sub1 9 (Str.ofString "&#09;").cps.toList (sub1 10 (Str.ofString "&#10;").cps.toList (sub1 13 (Str.ofString "&#13;").cps.toList (sub1 34 (Str.ofString "&quot;").cps.toList (E2 l))))
def E6 (l : List Nat) : List Nat := sub1 13 (Str.ofString "&#xD;").cps.toList (sub1 10 (Str.ofString "&#xA;").cps.toList (sub1 9 (Str.ofString "&#x9;").cps.toList (sub1 34 (Str.ofString "&quot;").cps.toList (sub1 60 (Str.ofString "&lt;").cps.toList (sub1 38 (Str.ofString "&amp;").cps.toList l)))))
def paramL (l : List Nat) : List Nat := if l = [] then [112] else [112, 61, 34] ++ sub1 34 [92, 34] (sub1 92 [92, 92] l) ++ [34]
/-- what the writer k writes of l -/
def handL (k : Int) (l : List Nat) : List Nat :=
  if k = 0 then quoteL l else if k = 1 then paramL l else if k = 2 then E2 l else if k = 3 then E3 l else if k = 4 then E4 l else if k = 5 then E5 l else E6 l
theorem handL0 (l : List Nat) : handL 0 l = quoteL l := rfl
theorem handL1 (l : List Nat) : handL 1 l = paramL l := rfl
theorem handL2 (l : List Nat) : handL 2 l = E2 l := rfl
theorem handL3 (l : List Nat) : handL 3 l = E3 l := rfl
theorem handL4 (l : List Nat) : handL 4 l = E4 l := rfl
theorem handL5 (l : List Nat) : handL 5 l = E5 l := rfl
theorem handL6 (l : List Nat) : handL 6 l = E6 l := rfl
end Mine
end

/-! ## CHand -/
section
open PySem PySem.W PySem.Calls PyProof.Rows
set_option maxRecDepth 100000
namespace Mine
local macro_rules | `(tactic| walk_at $s:str) => `(tactic| k_extra $s)
set_option maxHeartbeats 8000000 in
theorem c_hand (w : World) (mean : ExcName → Option Value) (mg mb : Str → Option Value) (k : Int) (l : List Nat) (t1 t2 : Tok) (hk0 : 0 ≤ k) (hk1 : k ≤ 6) (hx : l.length ≤ 100) :
    Says w mean mg mb 2 125 [.int k t1, .str (S l) t2] (fun _ => True) (fun r => ∃ t', r = .str (S (handL k l)) t') := by
  w_top off
  k_with_none
  k_with "call ref" => ((k_here; k_dflt (first | (refine' says_use (c_quote _ _ _ _ _ _ ?zqhx) ?zqB ?zqF ?zqX ?zqN ?zqT ?zqk ?zqd ?zqu ?zqp ?_; (case zqhx => omega); (case zqB => k_asm); (case zqF => k_asm); (case zqX => k_asm); (case zqN => k_asm); (case zqT => k_asm); (case zqk => first | exact rfl | assumption); (case zqd => ktr_room); (case zqu => ktr_units); (case zqp => trivial); k_whole; intro r9 h9 tk9 F9 N9 hr9; obtain ⟨t9, hq9⟩ := hr9; subst hq9; k_sweep) | (refine' says_use (c_param _ _ _ _ _ _ _ _ ?zqhx) ?zqB ?zqF ?zqX ?zqN ?zqT ?zqk ?zqd ?zqu ?zqp ?_; (case zqhx => omega); (case zqB => k_asm); (case zqF => k_asm); (case zqX => k_asm); (case zqN => k_asm); (case zqT => k_asm); (case zqk => first | exact rfl | assumption); (case zqd => ktr_room); (case zqu => ktr_units); (case zqp => trivial); k_whole; intro r9 h9 tk9 F9 N9 hr9; obtain ⟨t9, hq9⟩ := hr9; subst hq9; k_sweep) | (refine' says_use (c_cdata _ _ _ _ _ _ ?zqhx) ?zqB ?zqF ?zqX ?zqN ?zqT ?zqk ?zqd ?zqu ?zqp ?_; (case zqhx => omega); (case zqB => k_asm); (case zqF => k_asm); (case zqX => k_asm); (case zqN => k_asm); (case zqT => k_asm); (case zqk => first | exact rfl | assumption); (case zqd => ktr_room); (case zqu => ktr_units); (case zqp => trivial); k_whole; intro r9 h9 tk9 F9 N9 hr9; obtain ⟨t9, hq9⟩ := hr9; subst hq9; k_sweep) | (refine' says_use (c_c14n _ _ _ _ _ _ ?zqhx) ?zqB ?zqF ?zqX ?zqN ?zqT ?zqk ?zqd ?zqu ?zqp ?_; (case zqhx => omega); (case zqB => k_asm); (case zqF => k_asm); (case zqX => k_asm); (case zqN => k_asm); (case zqT => k_asm); (case zqk => first | exact rfl | assumption); (case zqd => ktr_room); (case zqu => ktr_units); (case zqp => trivial); k_whole; intro r9 h9 tk9 F9 N9 hr9; obtain ⟨t9, hq9⟩ := hr9; subst hq9; k_sweep) | (refine' says_use (c_html _ _ _ _ _ _ ?zqhx) ?zqB ?zqF ?zqX ?zqN ?zqT ?zqk ?zqd ?zqu ?zqp ?_; (case zqhx => omega); (case zqB => k_asm); (case zqF => k_asm); (case zqX => k_asm); (case zqN => k_asm); (case zqT => k_asm); (case zqk => first | exact rfl | assumption); (case zqd => ktr_room); (case zqu => ktr_units); (case zqp => trivial); k_whole; intro r9 h9 tk9 F9 N9 hr9; obtain ⟨t9, hq9⟩ := hr9; subst hq9; k_sweep) | (refine' says_use (c_attrib _ _ _ _ _ _ ?zqhx) ?zqB ?zqF ?zqX ?zqN ?zqT ?zqk ?zqd ?zqu ?zqp ?_; (case zqhx => omega); (case zqB => k_asm); (case zqF => k_asm); (case zqX => k_asm); (case zqN => k_asm); (case zqT => k_asm); (case zqk => first | exact rfl | assumption); (case zqd => ktr_room); (case zqu => ktr_units); (case zqp => trivial); k_whole; intro r9 h9 tk9 F9 N9 hr9; obtain ⟨t9, hq9⟩ := hr9; subst hq9; k_sweep) | (refine' says_use (c_attr14 _ _ _ _ _ _ ?zqhx) ?zqB ?zqF ?zqX ?zqN ?zqT ?zqk ?zqd ?zqu ?zqp ?_; (case zqhx => omega); (case zqB => k_asm); (case zqF => k_asm); (case zqX => k_asm); (case zqN => k_asm); (case zqT => k_asm); (case zqk => first | exact rfl | assumption); (case zqd => ktr_room); (case zqu => ktr_units); (case zqp => trivial); k_whole; intro r9 h9 tk9 F9 N9 hr9; obtain ⟨t9, hq9⟩ := hr9; subst hq9; k_sweep))))
  unfold Says
  k_fill
  intro dp un gd cn cs a ccd cl outer A₀ base h₀ L m s Q E B F X T hk hd hu hp hret
  refine wpAny_call ?_
  (refine' enter0 ?k1 ?k2 ?k3 ?k5 ?kA ?kF ?kK ?k6 ?k7 ?k8 ?k9 ?kB ?kP ?_ ?c5 ?c2 ?c3 ?c4; (case kA => exact rfl); (case kF => exact rfl); (case kK => assumption); (case k1 => k_asm); (case k2 => k_asm); (case k3 => k_asm); (case k5 => k_asm); (case k6 => k_is); (case k7 => k_is); (case k8 => ktr_room); (case k9 => first | exact BindsTo.of_eq rfl | exact binds_K (by k_in) rfl (by k_is) rfl rfl rfl); (case c5 => decide); (case kB => exact locs rfl); (case kP => exact Nat.succ_pos _); (case c2 => exact rfl); (case c3 => exact rfl); (case c4 => exact rfl); k_whole; intro L' h' tk htk F' N' B' X' T'; (try dsimp only); (try k_lift B'); (try k_fold))
  k_steps
  all_goals (refine hret _ _ _ (by assumption) ?_; show ∃ t', _ = _)
  all_goals first
    | (subst_vars; exact ⟨_, rfl⟩)
    | (obtain rfl : k = 6 := (by omega); exact ⟨_, rfl⟩)
end Mine
end

/-! ## CSpell -/
section
open PySem PySem.W PySem.Calls PyProof.Rows
set_option maxRecDepth 100000
namespace Mine
local macro_rules | `(tactic| walk_at $s:str) => `(tactic| k_extra $s)
def spellT (k : Int) : List (Nat × Str) :=
  if k = 2 then [(38, Str.ofString "amp"), (60, Str.ofString "lt"), (62, Str.ofString "gt")]
  else if k = 3 then [(38, Str.ofString "amp"), (60, Str.ofString "lt"), (62, Str.ofString "gt"), (13, Str.ofString "#xD")]
  else if k = 4 then [(38, Str.ofString "amp"), (62, Str.ofString "gt"), (34, Str.ofString "quot")]
  else if k = 5 then [(38, Str.ofString "amp"), (60, Str.ofString "lt"), (62, Str.ofString "gt"), (34, Str.ofString "quot"), (13, Str.ofString "#13"), (10, Str.ofString "#10"), (9, Str.ofString "#09")]
  else [(38, Str.ofString "amp"), (60, Str.ofString "lt"), (34, Str.ofString "quot"), (13, Str.ofString "#xD"), (10, Str.ofString "#xA"), (9, Str.ofString "#x9")]
/-- the name that the writer k gives a sign -/
def spellL (k : Int) (c : Nat) : Str := ((spellT k).lookup c).getD (S [])
theorem same_sign (a c : Nat) : Spec.same (.str (S [a])) (.str (S [c])) = (c == a) := by
  show ((S [a] : Str) == S [c]) = (c == a)
  by_cases h : c = a
  · subst h; simp
  · have : S [a] ≠ S [c] := fun e => h (by
      have := congrArg (fun x : Str => x.cps.toList) e
      simpa using this.symm)
    rw [beq_eq_false_iff_ne.mpr this, beq_eq_false_iff_ne.mpr h]
theorem lookup_sign (c : Nat) : ∀ T : List (Nat × Str), Spec.lookup (.str (S [c])) (T.map fun p => (PyData.str (S [p.1]), PyData.str p.2)) = (T.lookup c).map PyData.str
  | [] => rfl
  | (a, b) :: r => by
    show (if Spec.same (.str (S [a])) (.str (S [c])) = true then some (PyData.str b) else Spec.lookup (.str (S [c])) (r.map fun p => (PyData.str (S [p.1]), PyData.str p.2))) = _
    rw [same_sign, List.lookup_cons, lookup_sign c r]
    cases h : c == a <;> rfl
theorem flat_spell {v : Value} {c : Nat} {D : List (PyData × PyData)} {T : List (Nat × Str)} {d : PyData} (h : PyProof.V.Flat v ((Spec.lookup (.str (S [c])) D).getD d)) (hD : D = T.map fun p => (PyData.str (S [p.1]), PyData.str p.2)) (hd : d = .str (S [])) :
    ∃ t', v = .str ((T.lookup c).getD (S [])) t' := by
  subst hD hd
  rw [lookup_sign] at h
  cases hl : T.lookup c with
  | none => rw [hl] at h; exact h.str_inv
  | some y => rw [hl] at h; exact h.str_inv
set_option maxHeartbeats 8000000 in
theorem c_spelled (w : World) (mean : ExcName → Option Value) (mg mb : Str → Option Value) (k : Int) (c : Nat) (t1 t2 : Tok) (hk0 : 2 ≤ k) (hk1 : k ≤ 6) :
    Says w mean mg mb 1 132 [.int k t1, .str (S [c]) t2] (fun _ => True) (fun r => ∃ t', r = .str (spellL k c) t') := by
  w_top off
  k_with_none
  unfold Says
  k_fill
  intro dp un gd cn cs a ccd cl outer A₀ base h₀ L m s Q E B F X T hk hd hu hp hret
  refine wpAny_call ?_
  (refine' enter0 ?k1 ?k2 ?k3 ?k5 ?kA ?kF ?kK ?k6 ?k7 ?k8 ?k9 ?kB ?kP ?_ ?c5 ?c2 ?c3 ?c4; (case kA => exact rfl); (case kF => exact rfl); (case kK => assumption); (case k1 => k_asm); (case k2 => k_asm); (case k3 => k_asm); (case k5 => k_asm); (case k6 => k_is); (case k7 => k_is); (case k8 => ktr_room); (case k9 => first | exact BindsTo.of_eq rfl | exact binds_K (by k_in) rfl (by k_is) rfl rfl rfl); (case c5 => decide); (case kB => exact locs rfl); (case kP => exact Nat.succ_pos _); (case c2 => exact rfl); (case c3 => exact rfl); (case c4 => exact rfl); k_whole; intro L' h' tk htk F' N' B' X' T'; (try dsimp only); (try k_lift B'); (try k_fold))
  k_steps
  all_goals refine hret _ _ _ (by assumption) ?_
  all_goals first
    | (subst_vars; exact flat_spell (by assumption) rfl rfl)
    | (obtain rfl : k = 6 := (by omega); exact flat_spell (by assumption) rfl rfl)
end Mine
end

/-! ## Comp -/
section
open PySem PySem.W PySem.Calls PySem.Spec PyProof.Rows PyProof.Rows.LCg
set_option maxRecDepth 100000
namespace Mine
section
variable {prog : Program} {w : World} {A : Around} {E : Value → Shared → Prop} {s : Shared} {h₀ : Heap} {L : Addr} {m : Str → Option Value} {env : Env}

/-- a text's iterator, of either make -/
theorem iter_txt {x : Str} {t : Tok} {Q : Value → Shared → Prop}
    (hQ : ∀ (o : Obj) (St : Nat → Heap → Prop), (∀ A' : Around, A'.handled = none → Walks prog w A' s.heap.objs.size [s.heap.objs.size] [s.heap.objs.size] x.cps.size (SignAt x) St) → (∀ i h, St i h → ∃ o, h.get? s.heap.objs.size = some o) → St 0 (s.heap.push o) →
      Q (.ref s.heap.objs.size) { s with heap := s.heap.push o }) : wpAny (model prog w) A (pyIter (.str x t)) Q E s := by
  cases ha : x.cps.all (· < 128)
  · exact wpAny_pyIter_wide ha (hQ _ _ (fun A' hA => Walks.strWide hA _ x t) (fun i h st => let ⟨o, e, _⟩ := st; ⟨o, e⟩) ⟨_, Heap.get?_push_size _ rfl, rfl, rfl⟩)
  · exact wpAny_pyIter_ascii ha (hQ _ _ (fun A' hA => Walks.strAscii hA _ x t) (fun i h st => let ⟨o, e, _⟩ := st; ⟨o, e⟩) ⟨_, Heap.get?_push_size _ rfl, rfl, rfl⟩)

def TxtU (prog : Program) (w : World) (A : Around) (h₀ : Heap) (L : Addr) (m : Str → Option Value) (env : Env) (elt : Expr) (x : Str) (scope : Scope) (cl : List (Str × Addr)) (Fin : Shared → List Value → List (Addr × Obj) → Prop) (xv : Value) (s₁ : Shared) : Prop :=
  ∃ l t news, xv = .str (S l) t ∧ A.handled = none ∧ Fr h₀ L s₁.heap m ∧ News h₀ L s₁.heap news ∧ l.length ≤ 100000 ∧
    ∀ s₂ : Shared, (∃ h, s₂ = { s₁ with heap := h }) → CompRest prog w A h₀ L m env elt x scope cl s₂ (fun _ => True) (SignAt (S l)) (Fin s₂) l.length 0 [] news
def TxtT (prog : Program) (w : World) (A : Around) (h₀ : Heap) (L : Addr) (m : Str → Option Value) (env : Env) (ct elt : Expr) (x : Str) (scope : Scope) (cl : List (Str × Addr)) (Fin : Shared → List Value → List (Addr × Obj) → Prop) (xv : Value) (s₁ : Shared) : Prop :=
  ∃ l t news, xv = .str (S l) t ∧ A.handled = none ∧ Fr h₀ L s₁.heap m ∧ News h₀ L s₁.heap news ∧ l.length ≤ 100000 ∧
    ∀ s₂ : Shared, (∃ h, s₂ = { s₁ with heap := h }) → LCt.CompRestT prog w A h₀ L m env ct elt x scope cl s₂ (fun _ => True) (SignAt (S l)) (Fin s₂) l.length 0 [] news

theorem ListComp_txt {elt iter : Expr} {x : Str} {px : Pos} {scope : Scope} {cl : List (Str × Addr)} {pos : Pos} {Q : Value → Shared → Prop} (_F₀ : Fr h₀ L s.heap m)
    (hclos : closureFor scope env = pure cl) (hcell : ∀ y ∈ scope.names, y.2 ≠ .cell) (hkind : scope.kind = .function)
    (hnames : ∀ y ∈ scope.names, y.2 = .local → scope.names.lookup y.1 = some .local) (hx : scope.names.lookup x = some .local)
    (h : wpAny (model prog w) A (eval iter env) (TxtU prog w A h₀ L m env elt x scope cl (fun s₂ => FinE h₀ L m s₂ Q)) E s)
    (hs : ∀ x, foldedSetIterable iter env x = pure x) :
    wpAny (model prog w) A (eval (.ListComp elt [⟨.Name x px, iter, [], 0⟩] scope pos) env) Q E s := by
  rw [eval_ListComp]
  refine wpAny_comprehension_free (use := none) rfl hs hclos hkind hnames (wpAny_mono h (fun xv s₁ h₁ => ?_) fun _ _ e => e)
  obtain ⟨l, t, news, rfl, hh, F, N, hsz, R⟩ := h₁
  refine iter_txt fun o St hW hIo hst => ?_
  have hn : (S l).cps.size = l.length := List.size_toArray ..
  have W := hW A hh
  rw [hn] at W
  have hsl : sizeLine = 16777216 := by decide
  refine block_U W (by omega) hIo (fun i h h' ob nw st e e' _ _ _ => W.frame i h h' st fun b hb o2 e2 => by rw [List.mem_singleton.mp hb] at e2 ⊢; rw [e'.trans e.symm]; exact e2) hcell hkind hx hst (fun b hb => ?_)
    (F.keeps fun _ _ e => Heap.get?_push_of_some _ e) (N.grown fun _ _ e => Heap.get?_push_of_some _ e) (Nat.ne_of_lt F.ns.lt) (next_is_new F) (fun p hp => Nat.ne_of_lt (Heap.lt_size (N p hp).1)) trivial (R _ ⟨_, rfl⟩) ?_
  · rw [List.mem_singleton.mp hb]
    show s₁.heap.objs.size < (s₁.heap.push _).objs.size
    rw [Heap.size_push]; exact Nat.lt_succ_self _
  · intro D C h tk m' ys news' F' N' o1 hn hC₀ hD₀ hCL hDL hCD offC fin
    refine ⟨m', hn, fun h'' hs'' => fin D h'' tk (F'.change hs'' hCL hC₀) (fun p hp => ?_) o1⟩
    refine ⟨hs''.extBut _ _ ?_ (N' p hp).1, (N' p hp).2⟩
    rcases List.mem_cons.mp hp with rfl | hp
    · exact Ne.symm hCD
    · exact offC p hp
theorem Assign_txt {elt iter : Expr} {x y : Str} {px py : Pos} {scope : Scope} {cl : List (Str × Addr)} {pos spos : Pos} {Q : Flow → Shared → Prop} (_F₀ : Fr h₀ L s.heap m) (hLe : env.locals = L)
    (hsw : swapsWith (.ListComp elt [⟨.Name x px, iter, [], 0⟩] scope pos) (some (.Name y py)) spos.line env = pure true)
    (hclos : closureFor scope env = pure cl) (hcell : ∀ z ∈ scope.names, z.2 ≠ .cell) (hkind : scope.kind = .function)
    (hnames : ∀ z ∈ scope.names, z.2 = .local → scope.names.lookup z.1 = some .local) (hx : scope.names.lookup x = some .local)
    (hy : env.kindOf y = some .local) (hp : (env.scope.kind == .class || (env.scope.kind == .module && env.locals != env.globals)) = false)
    (h : wpAny (model prog w) A (eval iter env) (TxtU prog w A h₀ L m env elt x scope cl (fun s₂ => FinA h₀ L m s₂ y Q)) E s)
    (hs : ∀ x, foldedSetIterable iter env x = pure x) :
    wpAny (model prog w) A (exec (.Assign [.Name y py] (.ListComp elt [⟨.Name x px, iter, [], 0⟩] scope pos) spos) env) Q E s := by
  subst hLe
  rw [exec_Assign_Name_used _ _ _ _ hsw]
  refine wpAny_bind (wpAny_standAt (wpAny_bind ?_))
  show wpAny _ A (do let _ ← comprehension (.ListComp elt [⟨.Name x px, iter, [], 0⟩] scope pos) scope env _ (newList []) false (eval iter env) (some (assign (.Name y py) env))) _ _ s
  refine wpAny_bind (wpAny_mono (wpAny_comprehension_free (use := some (assign (.Name y py) env)) (Q := fun _ s' => Q .next s') rfl hs hclos hkind hnames
    (wpAny_mono h (fun xv s₁ h₁ => ?_) fun _ _ e => e)) (fun _ s' hq => wpAny_pure (wpAny_pure hq)) fun _ _ e => e)
  obtain ⟨l, t, news, rfl, hh, F, N, hsz, R⟩ := h₁
  refine iter_txt fun o St hW hIo hst => ?_
  have hn : (S l).cps.size = l.length := List.size_toArray ..
  have W := hW A hh
  rw [hn] at W
  have hsl : sizeLine = 16777216 := by decide
  refine block_U W (by omega) hIo (fun i h h' ob nw st e e' _ _ _ => W.frame i h h' st fun b hb o2 e2 => by rw [List.mem_singleton.mp hb] at e2 ⊢; rw [e'.trans e.symm]; exact e2) hcell hkind hx hst (fun b hb => ?_)
    (F.keeps fun _ _ e => Heap.get?_push_of_some _ e) (N.grown fun _ _ e => Heap.get?_push_of_some _ e) (Nat.ne_of_lt F.ns.lt) (next_is_new F) (fun p hp => Nat.ne_of_lt (Heap.lt_size (N p hp).1)) trivial (R _ ⟨_, rfl⟩) ?_
  · rw [List.mem_singleton.mp hb]
    show s₁.heap.objs.size < (s₁.heap.push _).objs.size
    rw [Heap.size_push]; exact Nat.lt_succ_self _
  · intro D C h' tk m' ys news' F' N' o1 hn hC₀ hD₀ hCL hDL hCD offC fin
    show wpAny _ A (assign (.Name y py) env (.ref D)) _ _ _
    refine wpAny_assign_Name (wpAny_storeName_local hy F'.ns (fun h₂ hn₂ hs₂ => ?_) hp)
    have hL₀ : h₀.get? env.locals = none := Heap.get?_none_of_le F'.above
    have F₂ : Fr h₀ env.locals h₂ (fun z => if z = y then some (.ref D) else m z) := ⟨hn₂, fun b o e => hs₂.extBut b o (fun q => by rw [q, hL₀] at e; cases e) (F'.keep b o e), F'.above⟩
    refine ⟨m', hn.sameBut hs₂ hCL, fun h'' hs'' => fin D h'' _ (F₂.change hs'' hCL hC₀) (fun p hp => ?_) o1⟩
    have z : h₂.get? p.1 = some p.2 := hs₂.extBut _ _ (N' p hp).2.1 (N' p hp).1
    refine ⟨hs''.extBut _ _ ?_ z, (N' p hp).2⟩
    rcases List.mem_cons.mp hp with rfl | hp
    · exact Ne.symm hCD
    · exact offC p hp
theorem ListComp_txtT {ct elt iter : Expr} {x : Str} {px : Pos} {scope : Scope} {cl : List (Str × Addr)} {pos : Pos} {Q : Value → Shared → Prop} (_F₀ : Fr h₀ L s.heap m)
    (hclos : closureFor scope env = pure cl) (hcell : ∀ y ∈ scope.names, y.2 ≠ .cell) (hkind : scope.kind = .function)
    (hnames : ∀ y ∈ scope.names, y.2 = .local → scope.names.lookup y.1 = some .local) (hx : scope.names.lookup x = some .local)
    (h : wpAny (model prog w) A (eval iter env) (TxtT prog w A h₀ L m env ct elt x scope cl (fun s₂ => FinE h₀ L m s₂ Q)) E s)
    (hs : ∀ x, foldedSetIterable iter env x = pure x) :
    wpAny (model prog w) A (eval (.ListComp elt [⟨.Name x px, iter, [ct], 0⟩] scope pos) env) Q E s := by
  rw [eval_ListComp]
  refine wpAny_comprehension_free (use := none) rfl hs hclos hkind hnames (wpAny_mono h (fun xv s₁ h₁ => ?_) fun _ _ e => e)
  obtain ⟨l, t, news, rfl, hh, F, N, hsz, R⟩ := h₁
  refine iter_txt fun o St hW hIo hst => ?_
  have hn : (S l).cps.size = l.length := List.size_toArray ..
  have W := hW A hh
  rw [hn] at W
  have hsl : sizeLine = 16777216 := by decide
  refine LCt.block_T W (by omega) hIo (fun i h h' ob nw st e e' _ _ _ => W.frame i h h' st fun b hb o2 e2 => by rw [List.mem_singleton.mp hb] at e2 ⊢; rw [e'.trans e.symm]; exact e2) hcell hkind hx hst (fun b hb => ?_)
    (F.keeps fun _ _ e => Heap.get?_push_of_some _ e) (N.grown fun _ _ e => Heap.get?_push_of_some _ e) (Nat.ne_of_lt F.ns.lt) (next_is_new F) (fun p hp => Nat.ne_of_lt (Heap.lt_size (N p hp).1)) trivial (R _ ⟨_, rfl⟩) ?_
  · rw [List.mem_singleton.mp hb]
    show s₁.heap.objs.size < (s₁.heap.push _).objs.size
    rw [Heap.size_push]; exact Nat.lt_succ_self _
  · intro D C h tk m' ys news' F' N' o1 hn hC₀ hD₀ hCL hDL hCD offC fin
    refine ⟨m', hn, fun h'' hs'' => fin D h'' tk (F'.change hs'' hCL hC₀) (fun p hp => ?_) o1⟩
    refine ⟨hs''.extBut _ _ ?_ (N' p hp).1, (N' p hp).2⟩
    rcases List.mem_cons.mp hp with rfl | hp
    · exact Ne.symm hCD
    · exact offC p hp
end
end Mine
end

/-! ## Comp2 -/
section
open PySem PySem.W PySem.Calls PySem.Spec PyProof.Rows PyProof.Rows.LCg
set_option maxRecDepth 100000
namespace Mine
def StrEl (news : List (Addr × Obj)) (r : Str) (y : Value) (news' : List (Addr × Obj)) : Prop := news' = news ∧ ∃ t, y = .str r t
def PairEl (news : List (Addr × Obj)) (c : Nat) (r : Str) (y : Value) (news' : List (Addr × Obj)) : Prop :=
  ∃ a t t' nt, y = .ref a ∧ news' = (a, ({ cls := .type "list", data := .seq #[.str (S [c]) t, .str r t'] nt } : Obj)) :: news
def PairAt (nw : List (Addr × Obj)) (c : Nat) (r : Str) (y : Value) : Prop :=
  ∃ a t t' nt, y = .ref a ∧ (a, ({ cls := .type "list", data := .seq #[.str (S [c]) t, .str r t'] nt } : Obj)) ∈ nw
inductive PairsAre (g : Nat → Str) (nw : List (Addr × Obj)) : List Value → List Nat → Prop
  | nil : PairsAre g nw [] []
  | cons {y ys c l} : PairAt nw c (g c) y → PairsAre g nw ys l → PairsAre g nw (y :: ys) (c :: l)
theorem PairsAre.more {g : Nat → Str} {nw nw' : List (Addr × Obj)} (h : ∀ p ∈ nw, p ∈ nw') : ∀ {ys l}, PairsAre g nw ys l → PairsAre g nw' ys l
  | _, _, .nil => .nil
  | _, _, .cons ⟨a, t, t', nt, e, hm⟩ r => .cons ⟨a, t, t', nt, e, h _ hm⟩ (r.more h)
theorem PairsAre.snoc {g : Nat → Str} {nw : List (Addr × Obj)} {y : Value} {c : Nat} (h : PairAt nw c (g c) y) : ∀ {ys l}, PairsAre g nw ys l → PairsAre g nw (ys ++ [y]) (l ++ [c])
  | _, _, .nil => .cons h .nil
  | _, _, .cons q r => .cons q (r.snoc h)
theorem PairsAre.length {g : Nat → Str} {nw : List (Addr × Obj)} : ∀ {ys l}, PairsAre g nw ys l → ys.length = l.length
  | _, _, .nil => rfl
  | _, _, .cons _ r => by rw [List.length_cons, List.length_cons, r.length]
theorem PairsAre.at {g : Nat → Str} {nw : List (Addr × Obj)} : ∀ {ys l}, PairsAre g nw ys l → ∀ {i : Nat} {y : Value}, ys[i]? = some y → ∃ c, l[i]? = some c ∧ PairAt nw c (g c) y
  | _, _, .nil, i, y, h => by simp at h
  | _, _, .cons q r, 0, y, h => by simp at h; exact ⟨_, rfl, h ▸ q⟩
  | _, _, .cons q r, i + 1, y, h => by simpa using r.at (i := i) (by simpa using h)
theorem strs_snoc' {y : Str} {t : Tok} {vs : List Value} {ys : List Str} (h : StrsAre vs ys) : StrsAre (vs ++ [.str y t]) (ys ++ [y]) := h.append' (.cons y t .nil)
theorem sign_at {l : List Nat} {i : Nat} {v : Value} (h : SignAt (S l) i v) : ∃ c t, l[i]? = some c ∧ v = .str (S [c]) t := by
  obtain ⟨c, t, e, hv⟩ := h
  exact ⟨c, t, by simpa using e, hv⟩
section
variable {prog : Program} {w : World} {A : Around} {h₀ : Heap} {L : Addr} {m : Str → Option Value} {env : Env} {ct elt : Expr} {x : Str} {scope : Scope} {cl : List (Str × Addr)} {s : Shared} {Fin : List Value → List (Addr × Obj) → Prop} {news : List (Addr × Obj)} {l : List Nat}
theorem TxtU.intro {FinS : Shared → List Value → List (Addr × Obj) → Prop} {t : Tok} {s₁ : Shared} (hh : A.handled = none) (F : Fr h₀ L s₁.heap m) (N : News h₀ L s₁.heap news) (hl : l.length ≤ 100000)
    (R : ∀ g, CompRest prog w A h₀ L m env elt x scope cl { s₁ with heap := g } (fun _ => True) (SignAt (S l)) (FinS { s₁ with heap := g }) l.length 0 [] news) : TxtU prog w A h₀ L m env elt x scope cl FinS (.str (S l) t) s₁ :=
  ⟨l, t, news, rfl, hh, F, N, hl, fun _ ⟨g, e⟩ => e ▸ R g⟩
theorem TxtT.intro {FinS : Shared → List Value → List (Addr × Obj) → Prop} {t : Tok} {s₁ : Shared} (hh : A.handled = none) (F : Fr h₀ L s₁.heap m) (N : News h₀ L s₁.heap news) (hl : l.length ≤ 100000)
    (R : ∀ g, LCt.CompRestT prog w A h₀ L m env ct elt x scope cl { s₁ with heap := g } (fun _ => True) (SignAt (S l)) (FinS { s₁ with heap := g }) l.length 0 [] news) : TxtT prog w A h₀ L m env ct elt x scope cl FinS (.str (S l) t) s₁ :=
  ⟨l, t, news, rfl, hh, F, N, hl, fun _ ⟨g, e⟩ => e ▸ R g⟩
theorem rest_txt (g : Nat → Str)
    (turn : ∀ c t I oI C oC D m₂ ys h tk (E' : Value → Shared → Prop), c ∈ l → NsObj oC m₂ → m₂ x = some (.str (S [c]) t) → Fr h₀ L h m → News h₀ L h ((I, oI) :: (C, oC) :: (D, lst ys) :: news) → Off3 I C D news → ((@Ne Nat I C) ∧ (@Ne Nat I D) ∧ (@Ne Nat C D)) →
      wpAny (model prog w) A (eval elt (compEnvC scope cl C env)) (CompEnd h₀ L m { s with heap := h, toks := tk } I oI C oC D (lst ys) (fun _ => True) (fun y news' => StrEl news (g c) y news')) E' { s with heap := h, toks := tk })
    (fin : ∀ ys, StrsAre ys (l.map g) → Fin ys news) : CompRest prog w A h₀ L m env elt x scope cl s (fun _ => True) (SignAt (S l)) Fin l.length 0 [] news := by
  have key : ∀ (j i : Nat) (ys : List Value), i + j = l.length → StrsAre ys ((l.take i).map g) → CompRest prog w A h₀ L m env elt x scope cl s (fun _ => True) (SignAt (S l)) Fin j i ys news := by
    intro j
    induction j with
    | zero =>
      intro i ys hi hy
      rw [List.take_of_length_le (by omega)] at hy
      exact CompRest.zero (fin ys hy)
    | succ j ih =>
      intro i ys hi hy
      refine CompRest.succ fun v I oI C oC D m₂ h tk E' hv hC hx F N off ne => ?_
      obtain ⟨c, t, hc, rfl⟩ := sign_at hv
      refine wpAny_mono (turn c t I oI C oC D m₂ ys h tk E' (List.mem_of_getElem? hc) hC hx F N off ne) (fun y s₂ hq => ?_) fun _ _ e => e
      obtain ⟨h', tk', nw, e, F', N', off', hS, rfl, t', rfl⟩ := hq
      refine ⟨h', tk', nw, e, F', N', off', hS, ih (i + 1) _ (by omega) ?_⟩
      rw [List.take_add_one, hc]
      simpa using strs_snoc' hy
  exact key l.length 0 [] (by omega) (by simp only [List.take_zero, List.map_nil]; exact .nil)
theorem rest_pairs (g : Nat → Str)
    (turn : ∀ nw c t I oI C oC D m₂ ys h tk (E' : Value → Shared → Prop), c ∈ l → (∀ p ∈ news, p ∈ nw) → NsObj oC m₂ → m₂ x = some (.str (S [c]) t) → Fr h₀ L h m → News h₀ L h ((I, oI) :: (C, oC) :: (D, lst ys) :: nw) → Off3 I C D nw → ((@Ne Nat I C) ∧ (@Ne Nat I D) ∧ (@Ne Nat C D)) →
      wpAny (model prog w) A (eval elt (compEnvC scope cl C env)) (CompEnd h₀ L m { s with heap := h, toks := tk } I oI C oC D (lst ys) (fun _ => True) (fun y news' => PairEl nw c (g c) y news')) E' { s with heap := h, toks := tk })
    (fin : ∀ ys nw, (∀ p ∈ news, p ∈ nw) → PairsAre g nw ys l → Fin ys nw) : CompRest prog w A h₀ L m env elt x scope cl s (fun _ => True) (SignAt (S l)) Fin l.length 0 [] news := by
  have key : ∀ (j i : Nat) (ys : List Value) (nw : List (Addr × Obj)), i + j = l.length → (∀ p ∈ news, p ∈ nw) → PairsAre g nw ys (l.take i) → CompRest prog w A h₀ L m env elt x scope cl s (fun _ => True) (SignAt (S l)) Fin j i ys nw := by
    intro j
    induction j with
    | zero =>
      intro i ys nw hi hsub hy
      rw [List.take_of_length_le (by omega)] at hy
      exact CompRest.zero (fin ys nw hsub hy)
    | succ j ih =>
      intro i ys nw hi hsub hy
      refine CompRest.succ fun v I oI C oC D m₂ h tk E' hv hC hx F N off ne => ?_
      obtain ⟨c, t, hc, rfl⟩ := sign_at hv
      refine wpAny_mono (turn nw c t I oI C oC D m₂ ys h tk E' (List.mem_of_getElem? hc) hsub hC hx F N off ne) (fun y s₂ hq => ?_) fun _ _ e => e
      obtain ⟨h', tk', nw', e, F', N', off', hS, a, t1, t2, nt, rfl, rfl⟩ := hq
      refine ⟨h', tk', _, e, F', N', off', hS, ih (i + 1) _ _ (by omega) (fun p hp => .tail _ (hsub p hp)) ?_⟩
      rw [List.take_add_one, hc]
      simpa using (hy.more (nw' := _ :: nw) fun p hp => .tail _ hp).snoc ⟨a, t1, t2, nt, rfl, .head _⟩
  exact key l.length 0 [] news (by omega) (fun _ h => h) (by simp only [List.take_zero]; exact .nil)
theorem rest_test (d : Nat → Bool)
    (turn : ∀ c t I oI C oC D m₂ ys h tk (E' : Value → Shared → Prop), c ∈ l → NsObj oC m₂ → m₂ x = some (.str (S [c]) t) → Fr h₀ L h m → News h₀ L h ((I, oI) :: (C, oC) :: (D, lst ys) :: news) → Off3 I C D news → ((@Ne Nat I C) ∧ (@Ne Nat I D) ∧ (@Ne Nat C D)) →
      wpAny (model prog w) A (isTrue ct (compEnvC scope cl C env) (eval ct (compEnvC scope cl C env))) (fun ok s' => if ok = true then
        wpAny (model prog w) A (eval elt (compEnvC scope cl C env)) (CompEnd h₀ L m { s with heap := h, toks := tk } I oI C oC D (lst ys) (fun _ => True) (fun y news' => d c = true ∧ StrEl news (S [c]) y news')) E' s'
        else CompEnd h₀ L m { s with heap := h, toks := tk } I oI C oC D (lst ys) (fun _ => True) (fun _ news' => d c = false ∧ news' = news) Value.none s') E' { s with heap := h, toks := tk })
    (fin : ∀ ys, StrsAre ys ((l.filter d).map fun c => S [c]) → Fin ys news) : LCt.CompRestT prog w A h₀ L m env ct elt x scope cl s (fun _ => True) (SignAt (S l)) Fin l.length 0 [] news := by
  have key : ∀ (j i : Nat) (ys : List Value), i + j = l.length → StrsAre ys (((l.take i).filter d).map fun c => S [c]) → LCt.CompRestT prog w A h₀ L m env ct elt x scope cl s (fun _ => True) (SignAt (S l)) Fin j i ys news := by
    intro j
    induction j with
    | zero =>
      intro i ys hi hy
      rw [List.take_of_length_le (by omega)] at hy
      exact LCt.CompRestT.zero (fin ys hy)
    | succ j ih =>
      intro i ys hi hy
      refine LCt.CompRestT.succ fun v I oI C oC D m₂ h tk E' hv hC hx F N off ne => ?_
      obtain ⟨c, t, hc, rfl⟩ := sign_at hv
      refine wpAny_mono (turn c t I oI C oC D m₂ ys h tk E' (List.mem_of_getElem? hc) hC hx F N off ne) (fun ok s₂ hq => ?_) fun _ _ e => e
      cases ok with
      | true =>
        rw [if_pos rfl] at hq ⊢
        refine wpAny_mono hq (fun y s₃ hq => ?_) fun _ _ e => e
        obtain ⟨h', tk', nw, e, F', N', off', hS, hd, rfl, t', rfl⟩ := hq
        refine ⟨h', tk', nw, e, F', N', off', hS, ih (i + 1) _ (by omega) ?_⟩
        rw [List.take_add_one, hc, List.filter_append]
        simpa [hd] using strs_snoc' hy
      | false =>
        rw [if_neg Bool.false_ne_true] at hq ⊢
        obtain ⟨h', tk', nw, e, F', N', off', hS, hd, rfl⟩ := hq
        refine ⟨h', tk', nw, e, F', N', off', hS, ih (i + 1) _ (by omega) ?_⟩
        rw [List.take_add_one, hc, List.filter_append]
        simpa [hd] using hy
  exact key l.length 0 [] (by omega) (by simp only [List.take_zero, List.filter_nil, List.map_nil]; exact .nil)
end
end Mine
end

/-! ## CompP -/
section
open PySem PySem.W PySem.Calls PySem.Spec PyProof.Rows PyProof.Rows.LCg
set_option maxRecDepth 100000
namespace Mine
section
variable {prog : Program} {w : World} {A : Around} {E : Value → Shared → Prop} {s : Shared} {h₀ : Heap} {L : Addr} {m : Str → Option Value} {env : Env}

/-- a list of two, unpacked -/
theorem unpack_two {t : Addr} {v₁ v₂ : Value} {Q : List Value → Shared → Prop} (hh : A.handled = none) (ht : s.heap.IsList t #[v₁, v₂])
    (hQ : ∀ h', Heap.ExtBut s.heap.objs.size s.heap h' → Q [v₁, v₂] { s with heap := h' }) : wpAny (model prog w) A (unpackItems (.ref t) 2 none) Q E s := by
  have hlt : t ≠ s.heap.objs.size := by obtain ⟨o, ho, _⟩ := ht; exact Nat.ne_of_lt (Heap.lt_size ho)
  unfold unpackItems
  refine wpAny_bind ?_
  unfold notIterableAtAll
  refine wpAny_bind (wpAny_specialOf ht.typeIs slot_list_iter.lookup ?_)
  refine wpAny_pure ?_
  simp only [Bool.false_eq_true, if_false]
  refine wpAny_bind (wpAny_holding (wpAny_pyIter_list ht ?_))
  refine wpAny_bind (wpAny_holding ?_)
  have i0 : (s.heap.push { cls := .type "list_iterator", data := .fields #[.ref t, .int 0 0] }).IsListIter s.heap.objs.size t 0 := ⟨_, Heap.get?_push_size _ rfl, rfl, rfl⟩
  show wpAny _ _ (pyNext (.ref s.heap.objs.size) >>= _) _ E _
  refine wpAny_bind (wpAny_pyNext_list_item i0 (ht.push _) (x := v₁) rfl fun h₁ i1 hs₁ => ?_)
  have ht₁ : h₁.IsList t #[v₁, v₂] := (ht.push _).extBut hs₁.extBut hlt
  refine wpAny_bind (wpAny_holding ?_)
  show wpAny _ _ (pyNext (.ref s.heap.objs.size) >>= _) _ E _
  refine wpAny_bind (wpAny_pyNext_list_item i1 ht₁ (x := v₂) rfl fun h₂ i2 hs₂ => ?_)
  have ht₂ : h₂.IsList t #[v₁, v₂] := ht₁.extBut hs₂.extBut hlt
  refine wpAny_bind (wpAny_holding ?_)
  show wpAny _ _ (pure []) _ E _
  refine wpAny_pure (wpAny_pure (wpAny_pure ?_))
  rw [if_neg (by simp)]
  refine wpAny_bind (wpAny_holding (wpAny_pyNext_list_end hh i2 ht₂ rfl fun h₃ he₃ => ?_))
  simp only [Option.isSome_none, Bool.false_eq_true, if_false]
  exact wpAny_pure (hQ h₃ fun b o hb e => he₃ b o hb (hs₂.extBut b o hb (hs₁.extBut b o hb (Heap.get?_push_of_some _ e))))
theorem assign_two {env : Env} {x x₂ : Str} {px px₂ tp : Pos} {k : Nat} {t : Addr} {v₁ v₂ : Value} {Q : Unit → Shared → Prop} (hh : A.handled = none) (ht : s.heap.IsList t #[v₁, v₂])
    (h : ∀ h', Heap.ExtBut s.heap.objs.size s.heap h' → wpAny (model prog w) A (assign (.Name x px) env v₁) (fun _ s₁ => wpAny (model prog w) A (assign (.Name x₂ px₂) env v₂) Q E s₁) E { s with heap := h' }) :
    wpAny (model prog w) A (assign (.Tuple [.Name x px, .Name x₂ px₂] k tp) env (.ref t)) Q E s := by
  rw [assign_Tuple]
  refine wpAny_bind (wpAny_standAt ?_)
  unfold unpack
  refine wpAny_bind (wpAny_holding (unpack_two hh ht fun h' he => ?_))
  show wpAny _ _ (assignInOrder [assign (.Name x px) env, assign (.Name x₂ px₂) env] [v₁, v₂]) Q E _
  refine assignInOrder_cons (wpAny_mono (h h' he) (fun _ s₁ h₁ => ?_) fun _ _ e => e)
  refine assignInOrder_cons (wpAny_mono h₁ (fun _ s₂ h₂ => ?_) fun _ _ e => e)
  exact assignInOrder_nil h₂

def PairSrc (prog : Program) (w : World) (A : Around) (h₀ : Heap) (L : Addr) (m : Str → Option Value) (env : Env) (elt : Expr) (x x₂ : Str) (scope : Scope) (cl : List (Str × Addr)) (Q : Value → Shared → Prop) (xv : Value) (s₁ : Shared) : Prop :=
  ∃ ax ys₀ k news cs, ∃ g f : Nat → Str, xv = .ref ax ∧ A.handled = none ∧ Fr h₀ L s₁.heap m ∧ News h₀ L s₁.heap news ∧ (ax, ({ cls := .type "list", data := .seq (List.toArray ys₀) k } : Obj)) ∈ news ∧ PairsAre g news ys₀ cs ∧ cs.length ≤ 100000 ∧
    (∀ c t t' I oI C oC D m₂ ys h tk (E' : Value → Shared → Prop), c ∈ cs → NsObj oC m₂ → m₂ x = some (.str (S [c]) t) → m₂ x₂ = some (.str (g c) t') → Fr h₀ L h m → News h₀ L h ((I, oI) :: (C, oC) :: (D, lst ys) :: news) → Off3 I C D news → ((@Ne Nat I C) ∧ (@Ne Nat I D) ∧ (@Ne Nat C D)) →
      wpAny (model prog w) A (eval elt (compEnvC scope cl C env)) (CompEnd h₀ L m { s₁ with heap := h, toks := tk } I oI C oC D (lst ys) (fun _ => True) (fun y news' => StrEl news (f c) y news')) E' { s₁ with heap := h, toks := tk }) ∧
    (∀ ys, StrsAre ys (cs.map f) → FinE h₀ L m s₁ Q ys news)

theorem PairSrc.intro {elt : Expr} {x x₂ : Str} {scope : Scope} {cl : List (Str × Addr)} {Q : Value → Shared → Prop} {s₁ : Shared} {ax : Addr} {ys₀ : List Value} {k : Nat} {news : List (Addr × Obj)} {cs : List Nat} {g : Nat → Str} (f : Nat → Str)
    (hP : PairsAre g news ys₀ cs) (hh : A.handled = none) (F : Fr h₀ L s₁.heap m) (N : News h₀ L s₁.heap news) (hm : (ax, ({ cls := .type "list", data := .seq (List.toArray ys₀) k } : Obj)) ∈ news) (hl : cs.length ≤ 100000)
    (turn : ∀ c t t' I oI C oC D m₂ ys h tk (E' : Value → Shared → Prop), c ∈ cs → NsObj oC m₂ → m₂ x = some (.str (S [c]) t) → m₂ x₂ = some (.str (g c) t') → Fr h₀ L h m → News h₀ L h ((I, oI) :: (C, oC) :: (D, lst ys) :: news) → Off3 I C D news → ((@Ne Nat I C) ∧ (@Ne Nat I D) ∧ (@Ne Nat C D)) →
      wpAny (model prog w) A (eval elt (compEnvC scope cl C env)) (CompEnd h₀ L m { s₁ with heap := h, toks := tk } I oI C oC D (lst ys) (fun _ => True) (fun y news' => StrEl news (f c) y news')) E' { s₁ with heap := h, toks := tk })
    (fin : ∀ ys, StrsAre ys (cs.map f) → FinE h₀ L m s₁ Q ys news) : PairSrc prog w A h₀ L m env elt x x₂ scope cl Q (.ref ax) s₁ :=
  ⟨ax, ys₀, k, news, cs, g, f, rfl, hh, F, N, hm, hP, hl, turn, fin⟩
theorem ListComp_pairs {elt iter : Expr} {x x₂ : Str} {px px₂ tp : Pos} {kk : Nat} {scope : Scope} {cl : List (Str × Addr)} {pos : Pos} {Q : Value → Shared → Prop} (_F₀ : Fr h₀ L s.heap m)
    (hclos : closureFor scope env = pure cl) (hcell : ∀ y ∈ scope.names, y.2 ≠ .cell) (hkind : scope.kind = .function)
    (hnames : ∀ y ∈ scope.names, y.2 = .local → scope.names.lookup y.1 = some .local) (hx : scope.names.lookup x = some .local) (hx₂ : scope.names.lookup x₂ = some .local) (hxx : x ≠ x₂)
    (h : wpAny (model prog w) A (eval iter env) (PairSrc prog w A h₀ L m env elt x x₂ scope cl Q) E s)
    (hs : ∀ x, foldedSetIterable iter env x = pure x) :
    wpAny (model prog w) A (eval (.ListComp elt [⟨.Tuple [.Name x px, .Name x₂ px₂] kk tp, iter, [], 0⟩] scope pos) env) Q E s := by
  rw [eval_ListComp]
  refine wpAny_comprehension_free (use := none) rfl hs hclos hkind hnames (wpAny_mono h (fun xv s₁ h₁ => ?_) fun _ _ e => e)
  obtain ⟨ax, ys₀, k, news, cs, g, f, rfl, hh, F, N, hm, hP, hsz, turn, fin⟩ := h₁
  have hl : s₁.heap.IsList ax ys₀.toArray := ⟨_, (N _ hm).1, rfl, _, rfl⟩
  have hax : @LT.lt Nat _ ax s₁.heap.objs.size := Heap.lt_size (N _ hm).1
  refine wpAny_pyIter_list hl ?_
  generalize hI : s₁.heap.objs.size = I at *
  have F1 : Fr h₀ L (s₁.heap.push { cls := .type "list_iterator", data := .fields #[.ref ax, .int 0 0] }) m := F.keeps fun _ _ e => Heap.get?_push_of_some _ e
  have N1 : News h₀ L (s₁.heap.push { cls := .type "list_iterator", data := .fields #[.ref ax, .int 0 0] }) news := N.grown fun _ _ e => Heap.get?_push_of_some _ e
  have i1 : (s₁.heap.push { cls := .type "list_iterator", data := .fields #[.ref ax, .int 0 0] }).IsListIter I ax 0 := ⟨_, hI ▸ Heap.get?_push_size _ rfl, rfl, rfl⟩
  have z1 : (s₁.heap.push { cls := .type "list_iterator", data := .fields #[.ref ax, .int 0 0] }).objs.size = I + 1 := by rw [Heap.size_push, hI]
  have hLI : @LT.lt Nat _ L I := hI ▸ F.ns.lt
  have hnI : ∀ p ∈ news, @LT.lt Nat _ p.1 I := fun p hp => hI ▸ Heap.lt_size (N p hp).1
  have none₀ : ∀ a, I ≤ a → h₀.get? a = none := fun a ha => by
    cases e : h₀.get? a with
    | none => rfl
    | some o => exact absurd (hI ▸ Heap.lt_size (F.keep a o e)) (Nat.not_lt.mpr ha)
  generalize hH1 : s₁.heap.push { cls := .type "list_iterator", data := .fields #[.ref ax, .int 0 0] } = H1 at *
  refine wpAny_newObj_type (wpAny_newFunctionEnv hcell (by intro y hy; simp at hy) (fun h₂ hns₂ hsb₂ => ?_) hkind)
  dsimp only at hns₂ hsb₂ ⊢
  have z2 : (H1.push { cls := .type "list", dict := none, data := .seq ([] : List Value).toArray }).objs.size = I + 2 := by rw [Heap.size_push, z1]
  rw [z2] at hns₂ hsb₂
  rw [z1]
  generalize hH2 : H1.push { cls := .type "list", dict := none, data := .seq ([] : List Value).toArray } = H2 at *
  have old : ∀ b o, H1.get? b = some o → h₂.get? b = some o := fun b o e => hsb₂.extBut b o (Nat.ne_of_lt (by have this : @LT.lt Nat _ b H1.objs.size := Heap.lt_size e; rw [z1] at this; show @LT.lt Nat _ b (I + 2); omega)) (Heap.get?_push_of_some _ (hH2 ▸ Heap.get?_push_of_some _ e))
  have hacc : h₂.get? (I + 1) = some (lst []) := hsb₂.extBut _ _ (by show @Ne Nat (I + 1) (I + 2); omega) (Heap.get?_push_of_some _ (hH2 ▸ (z1 ▸ Heap.get?_push_size _ rfl)))
  rw [z2]
  have loop : codeAny (model prog w) A (.compLoop (.ListComp elt [⟨.Tuple [.Name x px, .Name x₂ px₂] kk tp, iter, [], 0⟩] scope pos) 0 (.ref I) (.ref (I + 1)) (compEnvC scope cl (I + 2) env))
      (compPost (model prog w) A E none Q (.ref (I + 1)) (I + 2)) { s₁ with heap := h₂, toks := s₁.toks + ([] : List (Str × Value)).length } := by
    refine LCp.codeAny_compLoop_pair
      (fun n s' => ∃ h' tk i ys m', s' = { s₁ with heap := h', toks := tk } ∧ i ≤ cs.length ∧ n = cs.length + 1 - i ∧ ys.length = i ∧ StrsAre ys ((cs.take i).map f) ∧ h'.IsListIter I ax i ∧ Fr h₀ L h' m ∧ h'.Ns (I + 2) m' ∧ News h₀ L h' ((I + 1, lst ys) :: news)) ?_ (cs.length + 1)
      ⟨h₂, _, 0, [], _, rfl, Nat.zero_le _, rfl, rfl, .nil, ?_, F1.keeps old, hns₂, ?_⟩
    · rintro n s' ⟨h', tk, i, ys, m', rfl, hi, rfl, hyl, hys, hit, F', hns, N'⟩
      have N'' : News h₀ L h' news := fun p hp => N' p (.tail _ hp)
      have hl' : h'.IsList ax ys₀.toArray := ⟨_, (N'' _ hm).1, rfl, _, rfl⟩
      have hlen := hP.length
      by_cases hlt : i < cs.length
      · obtain ⟨v, hv⟩ : ∃ v, ys₀[i]? = some v := ⟨ys₀[i]'(by omega), List.getElem?_eq_getElem _⟩
        obtain ⟨c, hc, t, t1, t2, nt, rfl, htm⟩ := hP.at hv
        refine wpAny_pyNext_list_item hit hl' (x := .ref t) (by simpa using hv) fun h₃ hit₃ hs₃ => ?_
        have N₃ : News h₀ L h₃ ((I + 1, lst ys) :: news) := fun p hp => ⟨hs₃.extBut _ _ (by
          rcases List.mem_cons.mp hp with rfl | hp
          · show @Ne Nat (I + 1) (I); omega
          · exact Nat.ne_of_lt (hnI p hp)) (N' p hp).1, (N' p hp).2⟩
        have F₃ : Fr h₀ L h₃ m := F'.change hs₃ (by show @Ne Nat I L; omega) (none₀ I (Nat.le_refl _))
        have hns₃ : h₃.Ns (I + 2) m' := hns.sameBut hs₃ (by show @Ne Nat (I + 2) I; omega)
        refine wpAny_letOwnedTupleGo_listiter hit₃ ?_
        have htl : h₃.IsList t #[.str (S [c]) t1, .str (g c) t2] := ⟨_, (N₃ _ (.tail _ htm)).1, rfl, _, rfl⟩
        refine assign_two hh htl fun h₄ he₄ => ?_
        have k₄ : ∀ b o, h₃.get? b = some o → h₄.get? b = some o := fun b o e => he₄ b o (Nat.ne_of_lt (Heap.lt_size e)) e
        refine wpAny_assign_Name (wpAny_storeName_local (lookup_relabel_local hx) (hns₃.at' fun o e => k₄ _ o e) (fun h₅ hn₅ hs₅ => ?_) (by simp [compEnvC, relabel, hkind]))
        refine wpAny_assign_Name (wpAny_storeName_local (lookup_relabel_local hx₂) hn₅ (fun h₆ hn₆ hs₆ => ?_) (by simp [compEnvC, relabel, hkind]))
        have k₆ : ∀ b o, b ≠ I + 2 → h₃.get? b = some o → h₆.get? b = some o := fun b o hb e => hs₆.extBut b o hb (hs₅.extBut b o hb (k₄ b o e))
        obtain ⟨oI, heI, hcI, hdI⟩ := id hit₃
        obtain ⟨oC, heC, hoC⟩ := ns_obj hn₆
        have F₆ : Fr h₀ L h₆ m := ((F₃.keeps k₄).change hs₅ (by show @Ne Nat (I + 2) (L); omega) (none₀ (I + 2) (by omega))).change hs₆ (by show @Ne Nat (I + 2) (L); omega) (none₀ (I + 2) (by omega))
        have N₆ : News h₀ L h₆ ((I, oI) :: (I + 2, oC) :: (I + 1, lst ys) :: news) := fun p hp => by
          rcases List.mem_cons.mp hp with rfl | hp
          · exact ⟨k₆ _ _ (by show @Ne Nat (I) (I + 2); omega) heI, by show @Ne Nat (I) (L); omega, none₀ I (Nat.le_refl _)⟩
          · rcases List.mem_cons.mp hp with rfl | hp
            · exact ⟨heC, by show @Ne Nat (I + 2) (L); omega, none₀ _ (by omega)⟩
            · refine ⟨k₆ _ _ ?_ (N₃ p hp).1, (N₃ p hp).2⟩
              rcases List.mem_cons.mp hp with rfl | hp
              · show @Ne Nat (I + 1) (I + 2); omega
              · have := hnI p hp; show @Ne Nat p.1 (I + 2); omega
        have off : Off3 I (I + 2) (I + 1) news := Off3.of fun p hp => by have := hnI p hp; exact ⟨by show @Ne Nat p.1 I; omega, by show @Ne Nat p.1 (I + 2); omega, by show @Ne Nat p.1 (I + 1); omega⟩
        refine wpAny_mono (turn c t1 t2 I oI (I + 2) oC (I + 1) _ ys h₆ _ _ (List.mem_of_getElem? hc) hoC (by simp [hxx]) (by simp) F₆ N₆ off ⟨by show @Ne Nat (I) (I + 2); omega, by show @Ne Nat (I) (I + 1); omega, by show @Ne Nat (I + 2) (I + 1); omega⟩) (fun y s₄ h₄ => ?_) fun _ _ e => e
        obtain ⟨h₇, tk₇, nw, rfl, F₇, N₇, off₇, _, rfl, t3, rfl⟩ := h₄
        have zI := (N₇ (I, oI) (.head _)).1
        have zC := (N₇ (I + 2, oC) (.tail _ (.head _))).1
        have zD := (N₇ (I + 1, lst ys) (.tail _ (.tail _ (.head _)))).1
        have hsl : sizeLine = 16777216 := by decide
        refine append_at (hsz := by show ys.toArray.size ≤ sizeLine; rw [List.size_toArray, hyl]; omega) zD fun h₈ hs₈ hD₈ => ?_
        refine ⟨cs.length + 1 - (i + 1), by omega, h₈, tk₇, i + 1, ys ++ [.str (f c) t3], _, rfl, hlt, rfl, by rw [List.length_append, List.length_singleton, hyl], ?_, ⟨oI, hs₈.extBut _ _ (by show @Ne Nat (I) (I + 1); omega) zI, hcI, hdI⟩, F₇.change hs₈ (by show @Ne Nat (I + 1) (L); omega) (none₀ _ (by omega)), (hoC.ns zC).sameBut hs₈ (by show @Ne Nat (I + 2) (I + 1); omega), fun p hp => ?_⟩
        · rw [List.take_add_one, hc]
          simpa using strs_snoc' hys
        · rcases List.mem_cons.mp hp with rfl | hp
          · exact ⟨hD₈.trans (congrArg some (lst_snoc ys _)), by show @Ne Nat (I + 1) (L); omega, none₀ _ (by omega)⟩
          · have z := N₇ p (.tail _ (.tail _ (.tail _ hp)))
            exact ⟨hs₈.extBut _ _ (by have := hnI p hp; show @Ne Nat (p.1) (I + 1); omega) z.1, z.2⟩
      · obtain rfl : i = cs.length := Nat.le_antisymm hi (Nat.not_lt.mp hlt)
        refine wpAny_pyNext_list_end hh hit hl' (by simp; omega) fun h₃ he₃ => ?_
        rw [List.take_length] at hys
        have F₃ : Fr h₀ L h₃ m := ⟨F'.ns.at' fun o e => he₃ L o (by show @Ne Nat L I; omega) e, fun b o e => he₃ b o (fun q => by rw [q, none₀ I (Nat.le_refl _)] at e; cases e) (F'.keep b o e), F'.above⟩
        refine ⟨m', hns.at' fun o e => he₃ _ o (by show @Ne Nat (I + 2) I; omega) e, fun h'' hs'' => fin ys hys (I + 1) h'' tk (F₃.change hs'' (by show @Ne Nat (I + 2) (L); omega) (none₀ _ (by omega))) (fun p hp => ?_) (Off3.one (I := I) (C := I + 2) (Off3.of fun p hp => by have := hnI p hp; exact ⟨by show @Ne Nat p.1 I; omega, by show @Ne Nat p.1 (I + 2); omega, by show @Ne Nat p.1 (I + 1); omega⟩))⟩
        refine ⟨hs''.extBut _ _ ?_ (he₃ _ _ ?_ (N' p hp).1), (N' p hp).2⟩
        · rcases List.mem_cons.mp hp with rfl | hp
          · show @Ne Nat (I + 1) (I + 2); omega
          · have := hnI p hp; show @Ne Nat p.1 (I + 2); omega
        · rcases List.mem_cons.mp hp with rfl | hp
          · show @Ne Nat (I + 1) (I); omega
          · have := hnI p hp; show @Ne Nat p.1 I; omega
    · obtain ⟨o, e, r⟩ := i1
      exact ⟨o, old _ _ e, r⟩
    · intro p hp
      rcases List.mem_cons.mp hp with rfl | hp
      · exact ⟨hacc, by show @Ne Nat (I + 1) (L); omega, none₀ _ (by omega)⟩
      · exact ⟨old _ _ (N1 p hp).1, (N1 p hp).2⟩
  refine codeAny_compStart_list loop ?_
  refine (Walks.list (prog := prog) (w := w) hh I ax (by show @Ne Nat ax I; omega) ys₀.toArray).self 0 _ _ _ ⟨?_, ?_⟩ loop
  · obtain ⟨o, e, r⟩ := i1
    exact ⟨o, old _ _ e, r⟩
  · exact ⟨_, old _ _ (N1 _ hm).1, rfl, _, rfl⟩
end
end Mine
end

/-! ## Wr -/
section
open PySem PySem.W PySem.Calls PySem.Spec PyProof.Rows PyProof.Rows.LCg
set_option maxRecDepth 100000
namespace Mine
theorem S_join : ∀ ys : List Str, (Str.join (S []) ys) = S (ys.flatMap (·.cps.toList))
  | [] => rfl
  | [y] => by apply Str.ext'; apply Array.toList_inj.mp; simp [Str.join]
  | y :: z :: r => by
    apply Str.ext'; apply Array.toList_inj.mp
    show (y ++ S [] ++ Str.join (S []) (z :: r)).cps.toList = _
    rw [Str.cps_append, Array.toList_append, S_join (z :: r), Str.cps_append]
    simp
theorem sum_len (g : Nat → Str) (k : Nat) (hg : ∀ c, (g c).length ≤ k) : ∀ l : List Nat, ((l.map g).map (·.length)).sum ≤ k * l.length
  | [] => Nat.zero_le _
  | c :: r => by
    have := sum_len g k hg r
    have := hg c
    simp only [List.map_cons, List.sum_cons, List.length_cons, Nat.mul_succ]
    omega
theorem flat_len (g : Nat → Str) (k : Nat) (hg : ∀ c, (g c).length ≤ k) : ∀ l : List Nat, (l.flatMap fun c => (g c).cps.toList).length ≤ k * l.length
  | [] => Nat.zero_le _
  | c :: r => by
    have := flat_len g k hg r
    have h2 : (g c).cps.toList.length ≤ k := by rw [Array.length_toList]; exact hg c
    rw [List.flatMap_cons, List.length_append, List.length_cons, Nat.mul_succ]
    omega
section
variable {prog : Program} {w : World} {A : Around} {E : Value → Shared → Prop} {s : Shared} {h₀ : Heap} {L : Addr} {news : List (Addr × Obj)}
theorem join_map {D : Addr} {ys : List Value} {l : List Nat} {g : Nat → Str} {t : Tok} {Q : Value → Shared → Prop} (N : News h₀ L s.heap news) (hy : StrsAre ys (l.map g)) (hm : (D, lst ys) ∈ news) (hg : ∀ c, (g c).length ≤ 8) (hl : l.length ≤ 1000)
    (h : ∀ t k, (l.flatMap fun c => (g c).cps.toList).length ≤ 8 * l.length → Q (.str (S (l.flatMap fun c => (g c).cps.toList)) t) { s with toks := k }) :
    wpAny (model prog w) A (call (.builtin "str.join") [.str (Str.ofString "") t, .ref D]) Q E s := by
  have e0 : (Str.ofString "").length = 0 := by decide
  refine join_list (N.isList hm) hy ?_ fun t' k => ?_
  · have := sum_len g 8 hg l
    rw [e0]
    omega
  · have e : Txt.join (Str.ofString "") (l.map g) = S (l.flatMap fun c => (g c).cps.toList) := by
      unfold Txt.join
      rw [StrLaws.glued_eq_join]
      show Str.join (S []) _ = _
      rw [S_join, List.flatMap_map]
    rw [e]
    exact h t' k (flat_len g 8 hg l)
theorem add_S {x y : Str} {t u : Tok} {Q : Value → Shared → Prop} (hz : x.cps.toList.length + y.cps.toList.length ≤ 1000000)
    (h : ∀ t' k, Q (.str (S (x.cps.toList ++ y.cps.toList)) t') { s with toks := k }) : wpAny (model prog w) A (binaryOp .Add (.str x t) (.str y u)) Q E s := by
  have hs : sizeLine = 16777216 := by decide
  have e : x ++ y = S (x.cps.toList ++ y.cps.toList) := by
    apply Str.ext'; apply Array.toList_inj.mp
    rw [Str.cps_append, Array.toList_append]
  have h1 : x.length + y.length ≤ sizeLine := by
    show x.cps.size + y.cps.size ≤ sizeLine
    rw [← Array.length_toList, ← Array.length_toList, hs]
    omega
  refine SBL.add (hsz := h1) fun t' k _ => ?_
  rw [e]
  exact h t' k
end
/-- a sign with a stroke ahead where it wants one -/
def heldL (c : Nat) : Str := if c = 92 ∨ c = 34 then S [92, c] else S [c]
theorem heldL_len (c : Nat) : (heldL c).length ≤ 8 := by
  unfold heldL
  split <;> exact Nat.le_of_ble_eq_true rfl
/-- a sign with its name written out -/
def wrapL (k : Int) (c : Nat) : Str := if spellL k c = S [] then S [c] else S ([38] ++ (spellL k c).cps.toList ++ [59])
theorem spellL_len (k : Int) (c : Nat) : (spellL k c).length ≤ 4 := by
  unfold spellL
  have key : ∀ T : List (Nat × Str), (∀ p ∈ T, p.2.length ≤ 4) → ((T.lookup c).getD (S [])).length ≤ 4 := by
    intro T hT
    cases h : T.lookup c with
    | none => exact Nat.zero_le _
    | some y =>
      have : (c, y) ∈ T := by
        induction T with
        | nil => cases h
        | cons p r ih =>
          obtain ⟨a, b⟩ := p
          rw [List.lookup_cons] at h
          by_cases e : (c == a) = true
          · rw [e] at h
            cases h
            rw [beq_iff_eq.mp e]
            exact .head _
          · rw [Bool.not_eq_true] at e
            rw [e] at h
            exact .tail _ (ih (fun p hp => hT p (.tail _ hp)) h)
      exact hT _ this
  apply key
  unfold spellT
  split
  · decide
  · split
    · decide
    · split
      · decide
      · split <;> decide
theorem wrapL_len (k : Int) (c : Nat) : (wrapL k c).length ≤ 8 := by
  unfold wrapL
  split
  · exact Nat.le_of_ble_eq_true rfl
  · have := spellL_len k c
    have e : (spellL k c).cps.toList.length = (spellL k c).length := Array.length_toList
    show (List.toArray ([38] ++ (spellL k c).cps.toList ++ [59])).size ≤ 8
    rw [List.size_toArray, List.length_append, List.length_append, e]
    simp only [List.length_cons, List.length_nil]
    omega
end Mine
end

/-! ## QLoop -/
section
open PySem PySem.W PySem.Calls PySem.Spec PyProof.Rows PyProof.Rows.LCg
set_option maxRecDepth 100000
namespace Mine
/-- one sign of the walk that quotedata is held against: what is written, at a line's start, behind a return -/
def qstep (c : List Nat × Bool × Bool) (n : Nat) : List Nat × Bool × Bool :=
  if c.2.2 = true ∧ n = 10 then (c.1, c.2.1, false)
  else (c.1 ++ (if c.2.1 = true ∧ n = 46 then [46, 46] else if n = 13 ∨ n = 10 then [13, 10] else [n]), decide (n = 13 ∨ n = 10), decide (n = 13))
def qstate (l : List Nat) : List Nat × Bool × Bool := l.foldl qstep ([], true, false)
theorem qstate_snoc (l : List Nat) (n : Nat) : qstate (l ++ [n]) = qstep (qstate l) n := by
  unfold qstate; rw [List.foldl_append]; rfl
theorem qstep_len (c : List Nat × Bool × Bool) (n : Nat) : (qstep c n).1.length ≤ c.1.length + 2 := by
  unfold qstep
  split
  · exact Nat.le_add_right _ _
  · rw [List.length_append]
    have : (if c.2.1 = true ∧ n = 46 then [46, 46] else if n = 13 ∨ n = 10 then [13, 10] else [n]).length ≤ 2 := by
      split
      · decide
      · split <;> simp
    omega
theorem qstate_len (l : List Nat) : (qstate l).1.length ≤ 2 * l.length := by
  have key : ∀ (l : List Nat) (c : List Nat × Bool × Bool), (l.foldl qstep c).1.length ≤ c.1.length + 2 * l.length := by
    intro l
    induction l with
    | nil => intro c; exact Nat.le_add_right _ _
    | cons n r ih =>
      intro c
      have h1 := ih (qstep c n)
      have h2 := qstep_len c n
      rw [List.foldl_cons, List.length_cons]
      omega
  have := key l ([], true, false)
  unfold qstate
  simpa using this
abbrev sOut : Str := Str.ofString "out"
abbrev sFresh : Str := Str.ofString "fresh"
abbrev sBack : Str := Str.ofString "back"
def qPs (c : (List Nat × Bool × Bool) × Tok) : List (Str × Value) := [(sOut, .str (S c.1.1) c.2), (sFresh, .bool c.1.2.1), (sBack, .bool c.1.2.2)]
def QPost (h₀ : Heap) (L : Addr) (x : Str) (m₀ : Str → Option Value) (led : List (Addr × Obj)) (c : List Nat × Bool × Bool) (s₁ : Shared) (f : Flow) (s₂ : Shared) : Prop :=
  (f = .next ∨ f = .cont) ∧ ∃ h' tk m' t, s₂ = { s₁ with heap := h', toks := tk } ∧ Fr h₀ L h' m' ∧ News h₀ L h' led ∧ m' sOut = some (.str (S c.1) t) ∧ m' sFresh = some (.bool c.2.1) ∧ m' sBack = some (.bool c.2.2) ∧ ∀ z, z ≠ x → z ≠ sOut → z ≠ sFresh → z ≠ sBack → m' z = m₀ z
section
variable {prog : Program} {w : World} {A : Around} {E : Value → Shared → Prop} {s : Shared} {env : Env} {h₀ : Heap} {x : Str} {body : List Stmt} {Q : Flow → Shared → Prop}
theorem quote_loop {l : List Nat} {tx t0 : Tok} {m₀ : Str → Option Value} {led : List (Addr × Obj)} (hx : x ≠ sOut ∧ x ≠ sFresh ∧ x ≠ sBack)
    (hh : A.handled = none) (F : Fr h₀ env.locals s.heap m₀) (N : News h₀ env.locals s.heap led) (h1 : m₀ sOut = some (.str (S []) t0)) (h2 : m₀ sFresh = some (.bool true)) (h3 : m₀ sBack = some (.bool false))
    (turn : ∀ o f b t1 (pre : List Nat) n t (u : Str → Option Value) h tk own, o.length ≤ 2 * l.length → OwnOff own (led.map (·.1)) →
      Fr h₀ env.locals h (fun y => if y = x then some (.str (S [n]) t) else kstB (fun z => if ([] : List Str).contains z then u z else m₀ z) [(sOut, .str (S o) t1), (sFresh, .bool f), (sBack, .bool b)] y) → News h₀ env.locals h (led ++ own) →
      wpAny (model prog w) A (execs body env) (QPost h₀ env.locals x m₀ (led ++ own) (qstep (o, f, b) n) { s with heap := h, toks := tk }) E { s with heap := h, toks := tk })
    (done : ∀ t1 (u : Str → Option Value) h tk, (qstate l).1.length ≤ 2 * l.length → Fr h₀ env.locals h (fun y => if y = x then u y else kstB (fun z => if ([] : List Str).contains z then u z else m₀ z) [(sOut, .str (S (qstate l).1) t1), (sFresh, .bool (qstate l).2.1), (sBack, .bool (qstate l).2.2)] y) → News h₀ env.locals h led → Q .next { s with heap := h, toks := tk }) :
    wpAny (model prog w) A (pyIter (.str (S l) tx)) (fun it s₂ => LoopAtV prog w A h₀ env x body Q E it s₂) E s := by
  have hc : KStt.codes (S l) = l.map fun (c : Nat) => (c : Int) := rfl
  have back : ∀ pre : List Int, ∀ a b : List Nat, pre = (a.map fun (c : Nat) => (c : Int)) → pre = (b.map fun (c : Nat) => (c : Int)) → a = b := by
    intro pre a b e1 e2
    have := e1.symm.trans e2
    have h := congrArg (List.map Int.toNat) this
    simpa [List.map_map, Function.comp_def] using h
  refine KStt.kst_text (σ := (List Nat × Bool × Bool) × Tok) (fun _ => led) qPs (fun _ => True) [] (fun pre c => ∀ a : List Nat, pre = (a.map fun (c : Nat) => (c : Int)) → c.1 = qstate a) (([], true, false), t0) hh F N trivial ?_ ?_ ?_ ?_
  · intro p hp
    simp only [qPs, List.mem_cons, List.not_mem_nil, or_false] at hp
    rcases hp with rfl | rfl | rfl
    · exact h1
    · exact h2
    · exact h3
  · intro a ha
    cases a with
    | nil => rfl
    | cons b r => cases ha
  · rintro ⟨⟨o, f, b⟩, t1⟩ pre post n t u h tk own e hoff _ hP F' N'
    rw [hc] at e
    have hpre : pre = ((l.take pre.length).map fun (c : Nat) => (c : Int)) := by
      have := congrArg (List.take pre.length) e
      rw [List.take_left, ← List.map_take] at this
      exact this.symm
    have hq := hP _ hpre
    have hl : (l.take pre.length).length ≤ l.length := by rw [List.length_take]; omega
    have ho : o.length ≤ 2 * l.length := by
      have := qstate_len (l.take pre.length)
      rw [← hq] at this
      exact Nat.le_trans this (by omega)
    refine wpAny_mono (turn o f b t1 (l.take pre.length) n t u h tk own ho hoff F' N') (fun fl s₂ hp => ?_) fun _ _ e => e
    obtain ⟨hfl, h', tk', m', t', rfl, F₂, N₂, e1, e2, e3, er⟩ := hp
    have fin : InvEndN h₀ env.locals (KstS (fun _ => led) qPs (fun _ => True) x [] m₀ (fun pre c => ∀ a : List Nat, pre = (a.map fun (c : Nat) => (c : Int)) → c.1 = qstate a) (pre ++ [(n : Int)])) own (led.map (·.1)) { s with heap := h, toks := tk } { s with heap := h', toks := tk' } := by
      refine kst_end (qstep (o, f, b) n, t') F₂ N₂ (fun p hp => List.mem_append_left _ hp) (fun p hp => List.mem_append_right _ hp) rfl trivial ?_ ?_ ?_
      · intro p hp
        simp only [qPs, List.mem_cons, List.not_mem_nil, or_false] at hp
        rcases hp with rfl | rfl | rfl
        · exact e1
        · exact e2
        · exact e3
      · intro z hz hn _
        have m1 := hn (sOut, _) (.head _)
        have m2 := hn (sFresh, _) (.tail _ (.head _))
        have m3 := hn (sBack, _) (.tail _ (.tail _ (.head _)))
        exact er z hz m1 m2 m3
      · intro a ha
        have : a = l.take pre.length ++ [n] := by
          refine back _ _ _ ha ?_
          rw [List.map_append, ← hpre]
          rfl
        rw [this, qstate_snoc, ← hq]
    rcases hfl with rfl | rfl
    · exact fin
    · exact fin
  · rintro ⟨⟨o, f, b⟩, t1⟩ u h tk _ hP F' N'
    have hq := hP l hc
    dsimp only at hq
    rw [show o = (qstate l).1 from congrArg (·.1) hq, show f = (qstate l).2.1 from congrArg (·.2.1) hq, show b = (qstate l).2.2 from congrArg (·.2.2) hq] at F'
    exact done t1 u h tk (qstate_len l) F' N'
end
/-- the kind that the def was called with -/
structure KindIs (k : Int) : Prop where
theorem held_no {news : List (Addr × Obj)} {c : Nat} {t : Tok} (h : (Builtin.Str.occurrences (Str.ofString "\\\"") (S [c]) 0 (Str.ofString "\\\"").length 1).isEmpty = true) : StrEl news (heldL c) (.str (S [c]) t) news := by
  have := StrLaws.found_one (Str.ofString "\\\"") c
  rw [h] at this
  have hn : ¬ (c = 92 ∨ c = 34) := by
    have h2 : c ∉ (Str.ofString "\\\"").cps.toList := by simpa using this.symm
    have e : (Str.ofString "\\\"").cps.toList = [92, 34] := by decide
    rw [e] at h2
    simpa using h2
  refine ⟨rfl, t, ?_⟩
  rw [heldL, if_neg hn]
theorem held_yes {news : List (Addr × Obj)} {c : Nat} {t : Tok} (h : (Builtin.Str.occurrences (Str.ofString "\\\"") (S [c]) 0 (Str.ofString "\\\"").length 1).isEmpty = false) : StrEl news (heldL c) (.str (S ((Str.ofString "\\").cps.toList ++ (S [c]).cps.toList)) t) news := by
  have := StrLaws.found_one (Str.ofString "\\\"") c
  rw [h] at this
  have hn : (c = 92 ∨ c = 34) := by
    have h2 : c ∈ (Str.ofString "\\\"").cps.toList := by simpa using this.symm
    have e : (Str.ofString "\\\"").cps.toList = [92, 34] := by decide
    rw [e] at h2
    simpa using h2
  refine ⟨rfl, t, ?_⟩
  rw [heldL, if_pos hn]
  rfl
theorem eq_txt {l : List Nat} (h : (S l != Str.ofString "") = false) : l = [] := by
  have : S l = Str.ofString "" := by simpa using h
  have := congrArg (fun x : Str => x.cps.toList) this
  have e : (Str.ofString "").cps.toList = [] := by decide
  dsimp only at this
  rw [e] at this
  simpa using this
theorem ne_txt {l : List Nat} (h : (S l != Str.ofString "") = true) : l ≠ [] := by
  rintro rfl
  exact absurd h (by decide)
theorem len_a : (Str.ofString "..").cps.toList.length = 2 := by decide
theorem len_b : (Str.ofString "\r\n").cps.toList.length = 2 := by decide
theorem len_c : (Str.ofString "p=\"").cps.toList.length = 3 := by decide
theorem len_d : (Str.ofString "\"").cps.toList.length = 1 := by decide
theorem len_e : (Str.ofString "&").cps.toList.length = 1 := by decide
theorem len_g : (Str.ofString "\\").cps.toList.length = 1 := by decide
theorem len_f : (Str.ofString ";").cps.toList.length = 1 := by decide
def rest_pairs_of {k : Int} (_ : KindIs k) {prog : Program} {w : World} {A : Around} {h₀ : Heap} {L : Addr} {m : Str → Option Value} {env : Env} {elt : Expr} {x : Str} {scope : Scope} {cl : List (Str × Addr)} {s : Shared} {Fin : List Value → List (Addr × Obj) → Prop} {news : List (Addr × Obj)} {l : List Nat} := rest_pairs (prog := prog) (w := w) (A := A) (h₀ := h₀) (L := L) (m := m) (env := env) (elt := elt) (x := x) (scope := scope) (cl := cl) (s := s) (Fin := Fin) (news := news) (l := l) (spellL k)
def PairSrc_of {k : Int} (_ : KindIs k) {prog : Program} {w : World} {A : Around} {h₀ : Heap} {L : Addr} {m : Str → Option Value} {env : Env} {elt : Expr} {x x₂ : Str} {scope : Scope} {cl : List (Str × Addr)} {Q : Value → Shared → Prop} {s₁ : Shared} {ax : Addr} {ys₀ : List Value} {kk : Nat} {news : List (Addr × Obj)} {cs : List Nat} := PairSrc.intro (prog := prog) (w := w) (A := A) (h₀ := h₀) (L := L) (m := m) (env := env) (elt := elt) (x := x) (x₂ := x₂) (scope := scope) (cl := cl) (Q := Q) (s₁ := s₁) (ax := ax) (ys₀ := ys₀) (k := kk) (news := news) (cs := cs) (g := spellL k) (wrapL k)
theorem pair_end {h₀ : Heap} {L I C D : Addr} {m : Str → Option Value} {s₁ : Shared} {oI oC oD : Obj} {nw : List (Addr × Obj)} {c : Nat} {r : Str} {h' : Heap} {tk : Nat} {l' : Addr} {t1 t2 : Tok} {nt : Nat} (F : Fr h₀ L h' m)
    (N : News h₀ L h' ((l', ({ cls := .type "list", data := .seq #[.str (S [c]) t1, .str r t2] nt } : Obj)) :: (I, oI) :: (C, oC) :: (D, oD) :: nw)) (off : Off3 I C D nw) (h1 : @Ne Nat l' I) (h2 : @Ne Nat l' C) (h3 : @Ne Nat l' D) :
    CompEnd h₀ L m s₁ I oI C oC D oD (fun _ => True) (fun y news' => PairEl nw c r y news') (.ref l') { s₁ with heap := h', toks := tk } := by
  refine CompEnd.intro F N ((l', _) :: nw) (fun p hp => ?_) ⟨⟨h1, h2, h3⟩, off⟩ trivial ⟨l', t1, t2, nt, rfl, rfl⟩
  rcases List.mem_cons.mp hp with rfl | hp
  · exact .tail _ (.head _)
  · rcases List.mem_cons.mp hp with rfl | hp
    · exact .tail _ (.tail _ (.head _))
    · rcases List.mem_cons.mp hp with rfl | hp
      · exact .tail _ (.tail _ (.tail _ (.head _)))
      · rcases List.mem_cons.mp hp with rfl | hp
        · exact .head _
        · exact .tail _ (.tail _ (.tail _ (.tail _ hp)))
theorem str_end {h₀ : Heap} {L I C D : Addr} {m : Str → Option Value} {s₁ : Shared} {oI oC oD : Obj} {nw : List (Addr × Obj)} {r : Str} {y : Value} {h' : Heap} {tk : Nat} (F : Fr h₀ L h' m)
    (N : News h₀ L h' ((I, oI) :: (C, oC) :: (D, oD) :: nw)) (off : Off3 I C D nw) (h : StrEl nw r y nw) :
    CompEnd h₀ L m s₁ I oI C oC D oD (fun _ => True) (fun y news' => StrEl nw r y news') y { s₁ with heap := h', toks := tk } :=
  CompEnd.intro F N nw (fun _ hp => hp) off trivial h
theorem spellL_cps (k : Int) (c : Nat) : (spellL k c).cps.toList.length ≤ 4 := by rw [Array.length_toList]; exact spellL_len k c
theorem sz_a (k : Int) (c : Nat) : (Str.ofString "&").cps.toList.length + (spellL k c).cps.toList.length ≤ 1000000 := by
  have := spellL_cps k c
  rw [len_e]
  omega
theorem sz_b (k : Int) (c : Nat) : (S ((Str.ofString "&").cps.toList ++ (spellL k c).cps.toList)).cps.toList.length + (Str.ofString ";").cps.toList.length ≤ 1000000 := by
  have := spellL_cps k c
  show ((Str.ofString "&").cps.toList ++ (spellL k c).cps.toList).length + _ ≤ _
  rw [List.length_append, len_e, len_f]
  omega
theorem wrap_no {news : List (Addr × Obj)} {k : Int} {c : Nat} {t : Tok} (h : (spellL k c != Str.ofString "") = false) : StrEl news (wrapL k c) (.str (S [c]) t) news := by
  have h2 : spellL k c = S [] := by
    have : spellL k c = Str.ofString "" := by simpa using h
    exact this
  refine ⟨rfl, t, ?_⟩
  rw [wrapL, if_pos h2]
theorem wrap_yes {news : List (Addr × Obj)} {k : Int} {c : Nat} {t : Tok} (h : (spellL k c != Str.ofString "") = true) : StrEl news (wrapL k c) (.str (S ((S ((Str.ofString "&").cps.toList ++ (spellL k c).cps.toList)).cps.toList ++ (Str.ofString ";").cps.toList)) t) news := by
  have h2 : spellL k c ≠ S [] := fun e => by
    rw [e] at h
    exact absurd h (by decide)
  refine ⟨rfl, t, ?_⟩
  rw [wrapL, if_neg h2]
  rfl
end Mine
end

/-! ## QEnds -/
section
open PySem PySem.W PySem.Calls PySem.Spec PyProof.Rows PyProof.Rows.LCg
set_option maxRecDepth 100000
namespace Mine
theorem sg (n k : Nat) (y : Str) (hy : y = S [k]) : (S [n] == y) = decide (n = k) := by
  subst hy
  by_cases h : n = k
  · subst h; simp
  · have : S [n] ≠ S [k] := fun e => h (by
      have := congrArg (fun x : Str => x.cps.toList) e
      simpa using this)
    rw [beq_eq_false_iff_ne.mpr this, decide_eq_false h]
theorem sg10 (n : Nat) : (S [n] == Str.ofString "\n") = decide (n = 10) := sg n 10 _ (by decide)
theorem sg13 (n : Nat) : (S [n] == Str.ofString "\r") = decide (n = 13) := sg n 13 _ (by decide)
theorem sg46 (n : Nat) : (S [n] == Str.ofString ".") = decide (n = 46) := sg n 46 _ (by decide)
theorem qpost_intro {h₀ : Heap} {L : Addr} {x : Str} {m₀ m' : Str → Option Value} {led : List (Addr × Obj)} {c : List Nat × Bool × Bool} {s₁ : Shared} {h' : Heap} {tk : Nat} {o' : List Nat} {f' b' : Bool} {t : Tok} (F : Fr h₀ L h' m') (N : News h₀ L h' led)
    (h1 : m' sOut = some (.str (S o') t)) (h2 : m' sFresh = some (.bool f')) (h3 : m' sBack = some (.bool b')) (hr : ∀ z, z ≠ x → z ≠ sOut → z ≠ sFresh → z ≠ sBack → m' z = m₀ z) (e : c = (o', f', b')) : QPost h₀ L x m₀ led c s₁ .next { s₁ with heap := h', toks := tk } := by
  subst e
  exact ⟨.inl rfl, h', tk, m', t, rfl, F, N, h1, h2, h3, hr⟩
theorem qs0 {o : List Nat} {f b : Bool} {n : Nat} (h0 : b = true) (h1 : (S [n] == Str.ofString "\n") = true) : qstep (o, f, b) n = (o, f, false) := by
  simp only [sg10, sg13, sg46, decide_eq_true_eq, decide_eq_false_iff_not] at *
  first | (subst_vars; simp [qstep]; done) | (simp_all [qstep]; done) | (exfalso; omega)
theorem qs1 {o : List Nat} {f b : Bool} {n : Nat} (h0 : b = true) (h1 : (S [n] == Str.ofString "\n") = false) (h2 : f = true) (h3 : (S [n] == Str.ofString ".") = true) (h4 : (S [n] == Str.ofString "\r") = true) : qstep (o, f, b) n = (o ++ [46, 46], (S [n] == Str.ofString "\r"), (S [n] == Str.ofString "\r")) := by
  simp only [sg10, sg13, sg46, decide_eq_true_eq, decide_eq_false_iff_not] at *
  first | (subst_vars; simp [qstep]; done) | (simp_all [qstep]; done) | (exfalso; omega)
theorem qs2 {o : List Nat} {f b : Bool} {n : Nat} (h0 : b = true) (h1 : (S [n] == Str.ofString "\n") = false) (h2 : f = true) (h3 : (S [n] == Str.ofString ".") = true) (h4 : (S [n] == Str.ofString "\r") = false) : qstep (o, f, b) n = (o ++ [46, 46], (S [n] == Str.ofString "\n"), (S [n] == Str.ofString "\r")) := by
  simp only [sg10, sg13, sg46, decide_eq_true_eq, decide_eq_false_iff_not] at *
  first | (subst_vars; simp [qstep]; done) | (simp_all [qstep]; done) | (exfalso; omega)
theorem qs3 {o : List Nat} {f b : Bool} {n : Nat} (h0 : b = true) (h1 : (S [n] == Str.ofString "\n") = false) (h2 : f = true) (h3 : (S [n] == Str.ofString ".") = false) (h4 : (S [n] == Str.ofString "\r") = true) : qstep (o, f, b) n = (o ++ [13, 10], (S [n] == Str.ofString "\r"), (S [n] == Str.ofString "\r")) := by
  simp only [sg10, sg13, sg46, decide_eq_true_eq, decide_eq_false_iff_not] at *
  first | (subst_vars; simp [qstep]; done) | (simp_all [qstep]; done) | (exfalso; omega)
theorem qs4 {o : List Nat} {f b : Bool} {n : Nat} (h0 : b = true) (h1 : (S [n] == Str.ofString "\n") = false) (h2 : f = true) (h3 : (S [n] == Str.ofString ".") = false) (h4 : (S [n] == Str.ofString "\r") = false) : qstep (o, f, b) n = (o ++ [n], (S [n] == Str.ofString "\n"), (S [n] == Str.ofString "\r")) := by
  simp only [sg10, sg13, sg46, decide_eq_true_eq, decide_eq_false_iff_not] at *
  first | (subst_vars; simp [qstep]; done) | (simp_all [qstep]; done) | (exfalso; omega)
theorem qs5 {o : List Nat} {f b : Bool} {n : Nat} (h0 : b = true) (h1 : (S [n] == Str.ofString "\n") = false) (h2 : f = false) (h3 : (S [n] == Str.ofString "\r") = true) : qstep (o, f, b) n = (o ++ [13, 10], (S [n] == Str.ofString "\r"), (S [n] == Str.ofString "\r")) := by
  simp only [sg10, sg13, sg46, decide_eq_true_eq, decide_eq_false_iff_not] at *
  first | (subst_vars; simp [qstep]; done) | (simp_all [qstep]; done) | (exfalso; omega)
theorem qs6 {o : List Nat} {f b : Bool} {n : Nat} (h0 : b = true) (h1 : (S [n] == Str.ofString "\n") = false) (h2 : f = false) (h3 : (S [n] == Str.ofString "\r") = false) : qstep (o, f, b) n = (o ++ [n], (S [n] == Str.ofString "\n"), (S [n] == Str.ofString "\r")) := by
  simp only [sg10, sg13, sg46, decide_eq_true_eq, decide_eq_false_iff_not] at *
  first | (subst_vars; simp [qstep]; done) | (simp_all [qstep]; done) | (exfalso; omega)
theorem qs7 {o : List Nat} {f b : Bool} {n : Nat} (h0 : b = false) (h1 : f = true) (h2 : (S [n] == Str.ofString ".") = true) (h3 : (S [n] == Str.ofString "\r") = true) : qstep (o, f, b) n = (o ++ [46, 46], (S [n] == Str.ofString "\r"), (S [n] == Str.ofString "\r")) := by
  simp only [sg10, sg13, sg46, decide_eq_true_eq, decide_eq_false_iff_not] at *
  first | (subst_vars; simp [qstep]; done) | (simp_all [qstep]; done) | (exfalso; omega)
theorem qs8 {o : List Nat} {f b : Bool} {n : Nat} (h0 : b = false) (h1 : f = true) (h2 : (S [n] == Str.ofString ".") = true) (h3 : (S [n] == Str.ofString "\r") = false) : qstep (o, f, b) n = (o ++ [46, 46], (S [n] == Str.ofString "\n"), (S [n] == Str.ofString "\r")) := by
  simp only [sg10, sg13, sg46, decide_eq_true_eq, decide_eq_false_iff_not] at *
  first | (subst_vars; simp [qstep]; done) | (simp_all [qstep]; done) | (exfalso; omega)
theorem qs9 {o : List Nat} {f b : Bool} {n : Nat} (h0 : b = false) (h1 : f = true) (h2 : (S [n] == Str.ofString ".") = false) (h3 : (S [n] == Str.ofString "\r") = true) : qstep (o, f, b) n = (o ++ [13, 10], (S [n] == Str.ofString "\r"), (S [n] == Str.ofString "\r")) := by
  simp only [sg10, sg13, sg46, decide_eq_true_eq, decide_eq_false_iff_not] at *
  first | (subst_vars; simp [qstep]; done) | (simp_all [qstep]; done) | (exfalso; omega)
theorem qs10 {o : List Nat} {f b : Bool} {n : Nat} (h0 : b = false) (h1 : f = true) (h2 : (S [n] == Str.ofString ".") = false) (h3 : (S [n] == Str.ofString "\r") = false) (h4 : (S [n] == Str.ofString "\n") = true) : qstep (o, f, b) n = (o ++ [13, 10], (S [n] == Str.ofString "\n"), (S [n] == Str.ofString "\r")) := by
  simp only [sg10, sg13, sg46, decide_eq_true_eq, decide_eq_false_iff_not] at *
  first | (subst_vars; simp [qstep]; done) | (simp_all [qstep]; done) | (exfalso; omega)
theorem qs11 {o : List Nat} {f b : Bool} {n : Nat} (h0 : b = false) (h1 : f = true) (h2 : (S [n] == Str.ofString ".") = false) (h3 : (S [n] == Str.ofString "\r") = false) (h4 : (S [n] == Str.ofString "\n") = false) : qstep (o, f, b) n = (o ++ [n], (S [n] == Str.ofString "\n"), (S [n] == Str.ofString "\r")) := by
  simp only [sg10, sg13, sg46, decide_eq_true_eq, decide_eq_false_iff_not] at *
  first | (subst_vars; simp [qstep]; done) | (simp_all [qstep]; done) | (exfalso; omega)
theorem qs12 {o : List Nat} {f b : Bool} {n : Nat} (h0 : b = false) (h1 : f = false) (h2 : (S [n] == Str.ofString "\r") = true) : qstep (o, f, b) n = (o ++ [13, 10], (S [n] == Str.ofString "\r"), (S [n] == Str.ofString "\r")) := by
  simp only [sg10, sg13, sg46, decide_eq_true_eq, decide_eq_false_iff_not] at *
  first | (subst_vars; simp [qstep]; done) | (simp_all [qstep]; done) | (exfalso; omega)
theorem qs13 {o : List Nat} {f b : Bool} {n : Nat} (h0 : b = false) (h1 : f = false) (h2 : (S [n] == Str.ofString "\r") = false) (h3 : (S [n] == Str.ofString "\n") = true) : qstep (o, f, b) n = (o ++ [13, 10], (S [n] == Str.ofString "\n"), (S [n] == Str.ofString "\r")) := by
  simp only [sg10, sg13, sg46, decide_eq_true_eq, decide_eq_false_iff_not] at *
  first | (subst_vars; simp [qstep]; done) | (simp_all [qstep]; done) | (exfalso; omega)
theorem qs14 {o : List Nat} {f b : Bool} {n : Nat} (h0 : b = false) (h1 : f = false) (h2 : (S [n] == Str.ofString "\r") = false) (h3 : (S [n] == Str.ofString "\n") = false) : qstep (o, f, b) n = (o ++ [n], (S [n] == Str.ofString "\n"), (S [n] == Str.ofString "\r")) := by
  simp only [sg10, sg13, sg46, decide_eq_true_eq, decide_eq_false_iff_not] at *
  first | (subst_vars; simp [qstep]; done) | (simp_all [qstep]; done) | (exfalso; omega)
end Mine
end

/-! ## CWr0 -/
section
open PySem PySem.W PySem.Calls PySem.Spec PyProof.Rows PyProof.Rows.LCg
set_option maxRecDepth 100000
namespace Mine
local macro_rules | `(tactic| walk_at $s:str) => `(tactic| k_extra $s)

local macro_rules | `(tactic| k_mem) => `(tactic| assumption)
set_option maxHeartbeats 8000000 in
theorem c_written0 (w : World) (mean : ExcName → Option Value) (mg mb : Str → Option Value) (k : Int) (l : List Nat) (t1 t2 : Tok) (hk0 : k = 0) (hx : l.length ≤ 100) :
    Says w mean mg mb 2 137 [.int k t1, .str (S l) t2] (fun _ => True) (fun r => ∃ t', r = .str (S ((qstate l).1)) t') := by
  w_top off
  k_with_none
  k_with "ite" => ((k_here; k_dflt (first | refine ite_pos (by first | omega | (simp only [beq_iff_eq, decide_eq_true_eq]; omega)) ?_ | refine ite_neg (by first | omega | (simp only [beq_iff_eq, decide_eq_true_eq]; omega)) ?_)))
  k_with "binaryOp Add str str" => ((k_here; k_dflt (refine add_S ?zqz ?_; (case zqz => first | exact sz_a _ _ | exact sz_b _ _ | (simp only [List.toList_toArray, List.length_append, List.length_cons, List.length_nil, len_a, len_b, len_c, len_d, len_e, len_f, len_g]; omega))); intro _ _))
  k_with "call builtin:str.join" => ((k_here; (with_reducible show wpAny _ _ (call (Value.builtin "str.join") [Value.str _ _, Value.ref _]) _ _ _); k_dflt (refine' join_map ?zqN (by assumption) ?zqm ?zqg ?zql ?_; (case zqN => k_asm); (case zqm => k_mem); (case zqg => first | exact heldL_len | exact wrapL_len _); (case zql => omega)); intro _ _ _))
  k_with "CompEnd" => ((k_here; k_dflt (first | (refine' pair_end ?zqF ?zqN ?zqo ?zqa ?zqb ?zqc; (case zqF => k_asm); (case zqN => k_asm); (case zqo => assumption); (case zqa => (show @Ne Nat _ _; omega)); (case zqb => (show @Ne Nat _ _; omega)); (case zqc => (show @Ne Nat _ _; omega))) | (refine' str_end ?zqF ?zqN ?zqo ?_; (case zqF => k_asm); (case zqN => k_asm); (case zqo => assumption)))))
  k_with "StrEl" => ((first | exact held_no (by assumption) | exact held_yes (by assumption) | exact wrap_no (by assumption) | exact wrap_yes (by assumption)))
  k_with "exec For" => ((k_here; (with_reducible show wpAny _ _ (exec (Stmt.For (Expr.Name _ _) (Expr.Name _ _) _ [] _) _) _ _ _); (rename Fr _ _ _ _ => lF'); (with_unfolding_all refine' For_invVF lF' ?zqk1 ?zqk2 ?_; (case zqk1 => exact rfl); (case zqk2 => exact rfl); k_whole)))
  k_with "pyIter str" => ((k_here; (with_reducible show wpAny _ _ (pyIter (Value.str _ _)) (fun it s₂ => LoopAtV _ _ _ _ _ _ _ _ _ it s₂) _ _); k_dflt (refine' quote_loop ?zqx ?zqh ?zqF ?zqN ?zqa ?zqb ?zqc ?_ ?_; (case zqx => decide); (case zqh => exact rfl); (case zqF => k_asm); (case zqN => k_asm); (case zqa => exact rfl); (case zqb => exact rfl); (case zqc => exact rfl)); (all_goals (try intro o' f' b' t' pre' n' u' v' h' tk' own' ho' hoff' F' N'))))
  k_with "exec Assign cons ListComp" => ((k_here; k_dflt (refine Assign_txt (by k_asm) (by rfl) (by with_unfolding_all rfl) (by with_unfolding_all rfl) (by decide) (by rfl) (by decide) (by rfl) (by rfl) (by rfl) ?_ (by intro _; rfl))))
  k_with "eval ListComp" => ((k_here; k_dflt (refine ListComp_pairs (by k_asm) (by with_unfolding_all rfl) (by decide) (by rfl) (by decide) (by rfl) (by rfl) (by decide) ?_ (by intro _; rfl))))
  k_with "TxtU" => ((k_here; (with_reducible show TxtU _ _ _ _ _ _ _ (Expr.IfExp _ _ _ _) _ _ _ _ _ _); k_dflt (refine' TxtU.intro ?zqh ?zqF ?zqN ?zqz ?_; (case zqh => exact rfl); (case zqF => k_asm); (case zqN => k_asm); (case zqz => omega)); intro g9; (refine rest_txt heldL (fun c' t' I' oI' C' oC' D' m' ys' h' tk' E' hc' hC' hx' F' N' off' ne' => ?_) (fun ys' hy' => ?_)); (all_goals (try simp only [Off3, and_true] at off'))))
  k_with "TxtU" => ((k_here; (with_reducible show TxtU _ _ _ _ _ _ _ (Expr.List _ _) _ _ _ _ _ _); k_dflt (refine' TxtU.intro ?zqh ?zqF ?zqN ?zqz ?_; (case zqh => exact rfl); (case zqF => k_asm); (case zqN => k_asm); (case zqz => omega)); intro g9; (refine rest_pairs_of (by assumption) (fun nw' c' t' I' oI' C' oC' D' m' ys' h' tk' E' hc' hsub' hC' hx' F' N' off' ne' => ?_) (fun ys' nw' hsub' hy' => ?_)); (all_goals (have hcm' := hsub' _ (List.Mem.head _)))))
  k_with "PairSrc" => ((k_here; k_dflt (refine' PairSrc_of (by assumption) ?zqP ?zqh ?zqF ?zqN ?zqm ?zqz ?_ ?_; (case zqh => exact rfl); (case zqF => k_asm); (case zqN => k_asm); (case zqP => exact PairsAre.more (fun p hp => List.Mem.tail _ hp) (by assumption)); (case zqm => k_mem); (case zqz => omega)); intro c' t' u' I' oI' C' oC' D' m' ys' h' tk' E' hc' hC' hx' hx2' F' N' off' ne'))
  k_with "call ref" => ((k_here; k_dflt (first | (refine' says_use (c_spelled _ _ _ _ _ _ _ _ ?zqh1 ?zqh2) ?zqB ?zqF ?zqX ?zqN ?zqT ?zqk ?zqd ?zqu ?zqp ?_; (case zqh1 => omega); (case zqh2 => omega); (case zqB => k_asm); (case zqF => k_asm); (case zqX => k_asm); (case zqN => k_asm); (case zqT => k_asm); (case zqk => first | exact rfl | assumption); (case zqd => ktr_room); (case zqu => ktr_units); (case zqp => trivial); k_whole; intro r9 h9 tk9 F9 N9 hr9; obtain ⟨t9, hq9⟩ := hr9; subst hq9; k_sweep))))
  unfold Says
  k_fill
  intro dp un gd cn cs a ccd cl outer A₀ base h₀ L m s Q E B F X T hk hd hu hp hret
  refine wpAny_call ?_
  (refine' enterC ?k1 ?k2 ?k3 ?k5 ?kA ?kF ?kK ?k6 ?k7 ?k8 ?k9 ?kB ?kD ?_ ?c2 ?c3 ?c4; (case kA => exact rfl); (case kF => exact rfl); (case kK => assumption); (case k1 => k_asm); (case k2 => k_asm); (case k3 => k_asm); (case k5 => k_asm); (case k6 => k_is); (case k7 => k_is); (case k8 => ktr_room); (case k9 => first | exact BindsTo.of_eq rfl | exact binds_K (by k_in) rfl (by k_is) rfl rfl rfl); (case kB => exact rfl); (case kD => decide +kernel); (case c2 => exact rfl); (case c3 => exact rfl); (case c4 => exact rfl); k_whole; intro L' h' tk cells' F' N' Y' B' X' T'; k_cells Y'; (try simp only [List.cons_append, List.nil_append] at N'); (try dsimp only); (try k_lift B'); (try k_fold))
  have hkind : KindIs k := ⟨⟩
  k_steps
  all_goals first
    | exact hret _ _ _ (by assumption) ⟨_, rfl⟩
    | (refine' qpost_intro ?F ?N ?a ?b ?c ?r ?e; (case F => assumption); (case N => assumption); (case a => exact rfl); (case b => exact rfl); (case c => exact rfl); (case r => (intro z z1 z2 z3 z4; simp only [if_neg z1, if_neg z2, if_neg z3, if_neg z4, kstB, List.contains_nil, Bool.false_eq_true, if_false])); (case e => first | exact qs1 (by assumption) (by assumption) (by assumption) (by assumption) (by assumption) | exact qs2 (by assumption) (by assumption) (by assumption) (by assumption) (by assumption) | exact qs3 (by assumption) (by assumption) (by assumption) (by assumption) (by assumption) | exact qs4 (by assumption) (by assumption) (by assumption) (by assumption) (by assumption) | exact qs10 (by assumption) (by assumption) (by assumption) (by assumption) (by assumption) | exact qs11 (by assumption) (by assumption) (by assumption) (by assumption) (by assumption) | exact qs5 (by assumption) (by assumption) (by assumption) (by assumption) | exact qs6 (by assumption) (by assumption) (by assumption) (by assumption) | exact qs7 (by assumption) (by assumption) (by assumption) (by assumption) | exact qs8 (by assumption) (by assumption) (by assumption) (by assumption) | exact qs9 (by assumption) (by assumption) (by assumption) (by assumption) | exact qs13 (by assumption) (by assumption) (by assumption) (by assumption) | exact qs14 (by assumption) (by assumption) (by assumption) (by assumption) | exact qs12 (by assumption) (by assumption) (by assumption) | exact qs0 (by assumption) (by assumption)))
end Mine
end

/-! ## CWr1 -/
section
open PySem PySem.W PySem.Calls PySem.Spec PyProof.Rows PyProof.Rows.LCg
set_option maxRecDepth 100000
namespace Mine
local macro_rules | `(tactic| walk_at $s:str) => `(tactic| k_extra $s)

local macro_rules | `(tactic| k_mem) => `(tactic| assumption)
set_option maxHeartbeats 8000000 in
theorem c_written1 (w : World) (mean : ExcName → Option Value) (mg mb : Str → Option Value) (k : Int) (l : List Nat) (t1 t2 : Tok) (hk0 : k = 1) (hx : l.length ≤ 100) :
    Says w mean mg mb 2 137 [.int k t1, .str (S l) t2] (fun _ => True) (fun r => ∃ t', r = .str (S (if l = [] then [112] else [112, 61, 34] ++ l.flatMap (fun c => (heldL c).cps.toList) ++ [34])) t') := by
  w_top off
  k_with_none
  k_with "ite" => ((k_here; k_dflt (first | refine ite_pos (by first | omega | (simp only [beq_iff_eq, decide_eq_true_eq]; omega)) ?_ | refine ite_neg (by first | omega | (simp only [beq_iff_eq, decide_eq_true_eq]; omega)) ?_)))
  k_with "binaryOp Add str str" => ((k_here; k_dflt (refine add_S ?zqz ?_; (case zqz => first | exact sz_a _ _ | exact sz_b _ _ | (simp only [List.toList_toArray, List.length_append, List.length_cons, List.length_nil, len_a, len_b, len_c, len_d, len_e, len_f, len_g]; omega))); intro _ _))
  k_with "call builtin:str.join" => ((k_here; (with_reducible show wpAny _ _ (call (Value.builtin "str.join") [Value.str _ _, Value.ref _]) _ _ _); k_dflt (refine' join_map ?zqN (by assumption) ?zqm ?zqg ?zql ?_; (case zqN => k_asm); (case zqm => k_mem); (case zqg => first | exact heldL_len | exact wrapL_len _); (case zql => omega)); intro _ _ _))
  k_with "CompEnd" => ((k_here; k_dflt (first | (refine' pair_end ?zqF ?zqN ?zqo ?zqa ?zqb ?zqc; (case zqF => k_asm); (case zqN => k_asm); (case zqo => assumption); (case zqa => (show @Ne Nat _ _; omega)); (case zqb => (show @Ne Nat _ _; omega)); (case zqc => (show @Ne Nat _ _; omega))) | (refine' str_end ?zqF ?zqN ?zqo ?_; (case zqF => k_asm); (case zqN => k_asm); (case zqo => assumption)))))
  k_with "StrEl" => ((first | exact held_no (by assumption) | exact held_yes (by assumption) | exact wrap_no (by assumption) | exact wrap_yes (by assumption)))
  k_with "exec For" => ((k_here; (with_reducible show wpAny _ _ (exec (Stmt.For (Expr.Name _ _) (Expr.Name _ _) _ [] _) _) _ _ _); (rename Fr _ _ _ _ => lF'); (with_unfolding_all refine' For_invVF lF' ?zqk1 ?zqk2 ?_; (case zqk1 => exact rfl); (case zqk2 => exact rfl); k_whole)))
  k_with "pyIter str" => ((k_here; (with_reducible show wpAny _ _ (pyIter (Value.str _ _)) (fun it s₂ => LoopAtV _ _ _ _ _ _ _ _ _ it s₂) _ _); k_dflt (refine' quote_loop ?zqx ?zqh ?zqF ?zqN ?zqa ?zqb ?zqc ?_ ?_; (case zqx => decide); (case zqh => exact rfl); (case zqF => k_asm); (case zqN => k_asm); (case zqa => exact rfl); (case zqb => exact rfl); (case zqc => exact rfl)); (all_goals (try intro o' f' b' t' pre' n' u' v' h' tk' own' ho' hoff' F' N'))))
  k_with "exec Assign cons ListComp" => ((k_here; k_dflt (refine Assign_txt (by k_asm) (by rfl) (by with_unfolding_all rfl) (by with_unfolding_all rfl) (by decide) (by rfl) (by decide) (by rfl) (by rfl) (by rfl) ?_ (by intro _; rfl))))
  k_with "eval ListComp" => ((k_here; k_dflt (refine ListComp_pairs (by k_asm) (by with_unfolding_all rfl) (by decide) (by rfl) (by decide) (by rfl) (by rfl) (by decide) ?_ (by intro _; rfl))))
  k_with "TxtU" => ((k_here; (with_reducible show TxtU _ _ _ _ _ _ _ (Expr.IfExp _ _ _ _) _ _ _ _ _ _); k_dflt (refine' TxtU.intro ?zqh ?zqF ?zqN ?zqz ?_; (case zqh => exact rfl); (case zqF => k_asm); (case zqN => k_asm); (case zqz => omega)); intro g9; (refine rest_txt heldL (fun c' t' I' oI' C' oC' D' m' ys' h' tk' E' hc' hC' hx' F' N' off' ne' => ?_) (fun ys' hy' => ?_)); (all_goals (try simp only [Off3, and_true] at off'))))
  k_with "TxtU" => ((k_here; (with_reducible show TxtU _ _ _ _ _ _ _ (Expr.List _ _) _ _ _ _ _ _); k_dflt (refine' TxtU.intro ?zqh ?zqF ?zqN ?zqz ?_; (case zqh => exact rfl); (case zqF => k_asm); (case zqN => k_asm); (case zqz => omega)); intro g9; (refine rest_pairs_of (by assumption) (fun nw' c' t' I' oI' C' oC' D' m' ys' h' tk' E' hc' hsub' hC' hx' F' N' off' ne' => ?_) (fun ys' nw' hsub' hy' => ?_)); (all_goals (have hcm' := hsub' _ (List.Mem.head _)))))
  k_with "PairSrc" => ((k_here; k_dflt (refine' PairSrc_of (by assumption) ?zqP ?zqh ?zqF ?zqN ?zqm ?zqz ?_ ?_; (case zqh => exact rfl); (case zqF => k_asm); (case zqN => k_asm); (case zqP => exact PairsAre.more (fun p hp => List.Mem.tail _ hp) (by assumption)); (case zqm => k_mem); (case zqz => omega)); intro c' t' u' I' oI' C' oC' D' m' ys' h' tk' E' hc' hC' hx' hx2' F' N' off' ne'))
  k_with "call ref" => ((k_here; k_dflt (first | (refine' says_use (c_spelled _ _ _ _ _ _ _ _ ?zqh1 ?zqh2) ?zqB ?zqF ?zqX ?zqN ?zqT ?zqk ?zqd ?zqu ?zqp ?_; (case zqh1 => omega); (case zqh2 => omega); (case zqB => k_asm); (case zqF => k_asm); (case zqX => k_asm); (case zqN => k_asm); (case zqT => k_asm); (case zqk => first | exact rfl | assumption); (case zqd => ktr_room); (case zqu => ktr_units); (case zqp => trivial); k_whole; intro r9 h9 tk9 F9 N9 hr9; obtain ⟨t9, hq9⟩ := hr9; subst hq9; k_sweep))))
  unfold Says
  k_fill
  intro dp un gd cn cs a ccd cl outer A₀ base h₀ L m s Q E B F X T hk hd hu hp hret
  refine wpAny_call ?_
  (refine' enterC ?k1 ?k2 ?k3 ?k5 ?kA ?kF ?kK ?k6 ?k7 ?k8 ?k9 ?kB ?kD ?_ ?c2 ?c3 ?c4; (case kA => exact rfl); (case kF => exact rfl); (case kK => assumption); (case k1 => k_asm); (case k2 => k_asm); (case k3 => k_asm); (case k5 => k_asm); (case k6 => k_is); (case k7 => k_is); (case k8 => ktr_room); (case k9 => first | exact BindsTo.of_eq rfl | exact binds_K (by k_in) rfl (by k_is) rfl rfl rfl); (case kB => exact rfl); (case kD => decide +kernel); (case c2 => exact rfl); (case c3 => exact rfl); (case c4 => exact rfl); k_whole; intro L' h' tk cells' F' N' Y' B' X' T'; k_cells Y'; (try simp only [List.cons_append, List.nil_append] at N'); (try dsimp only); (try k_lift B'); (try k_fold))
  have hkind : KindIs k := ⟨⟩
  k_steps
  all_goals (refine hret _ _ _ (by assumption) ?_; show ∃ t', _ = _)
  all_goals first | (rw [if_neg (ne_txt (by assumption))]; exact ⟨_, rfl⟩) | (rw [if_pos (eq_txt (by assumption))]; exact ⟨_, rfl⟩)
end Mine
end

/-! ## CWr2 -/
section
open PySem PySem.W PySem.Calls PySem.Spec PyProof.Rows PyProof.Rows.LCg
set_option maxRecDepth 100000
namespace Mine
local macro_rules | `(tactic| walk_at $s:str) => `(tactic| k_extra $s)

local macro_rules | `(tactic| k_mem) => `(tactic| assumption)
set_option maxHeartbeats 8000000 in
theorem c_written2 (w : World) (mean : ExcName → Option Value) (mg mb : Str → Option Value) (k : Int) (l : List Nat) (t1 t2 : Tok) (hk0 : 2 ≤ k) (hk1 : k ≤ 6) (hx : l.length ≤ 100) :
    Says w mean mg mb 2 137 [.int k t1, .str (S l) t2] (fun _ => True) (fun r => ∃ t', r = .str (S (l.flatMap (fun c => (wrapL k c).cps.toList))) t') := by
  w_top off
  k_with_none
  k_with "ite" => ((k_here; k_dflt (first | refine ite_pos (by first | omega | (simp only [beq_iff_eq, decide_eq_true_eq]; omega)) ?_ | refine ite_neg (by first | omega | (simp only [beq_iff_eq, decide_eq_true_eq]; omega)) ?_)))
  k_with "binaryOp Add str str" => ((k_here; k_dflt (refine add_S ?zqz ?_; (case zqz => first | exact sz_a _ _ | exact sz_b _ _ | (simp only [List.toList_toArray, List.length_append, List.length_cons, List.length_nil, len_a, len_b, len_c, len_d, len_e, len_f, len_g]; omega))); intro _ _))
  k_with "call builtin:str.join" => ((k_here; (with_reducible show wpAny _ _ (call (Value.builtin "str.join") [Value.str _ _, Value.ref _]) _ _ _); k_dflt (refine' join_map ?zqN (by assumption) ?zqm ?zqg ?zql ?_; (case zqN => k_asm); (case zqm => k_mem); (case zqg => first | exact heldL_len | exact wrapL_len _); (case zql => omega)); intro _ _ _))
  k_with "CompEnd" => ((k_here; k_dflt (first | (refine' pair_end ?zqF ?zqN ?zqo ?zqa ?zqb ?zqc; (case zqF => k_asm); (case zqN => k_asm); (case zqo => assumption); (case zqa => (show @Ne Nat _ _; omega)); (case zqb => (show @Ne Nat _ _; omega)); (case zqc => (show @Ne Nat _ _; omega))) | (refine' str_end ?zqF ?zqN ?zqo ?_; (case zqF => k_asm); (case zqN => k_asm); (case zqo => assumption)))))
  k_with "StrEl" => ((first | exact held_no (by assumption) | exact held_yes (by assumption) | exact wrap_no (by assumption) | exact wrap_yes (by assumption)))
  k_with "exec For" => ((k_here; (with_reducible show wpAny _ _ (exec (Stmt.For (Expr.Name _ _) (Expr.Name _ _) _ [] _) _) _ _ _); (rename Fr _ _ _ _ => lF'); (with_unfolding_all refine' For_invVF lF' ?zqk1 ?zqk2 ?_; (case zqk1 => exact rfl); (case zqk2 => exact rfl); k_whole)))
  k_with "pyIter str" => ((k_here; (with_reducible show wpAny _ _ (pyIter (Value.str _ _)) (fun it s₂ => LoopAtV _ _ _ _ _ _ _ _ _ it s₂) _ _); k_dflt (refine' quote_loop ?zqx ?zqh ?zqF ?zqN ?zqa ?zqb ?zqc ?_ ?_; (case zqx => decide); (case zqh => exact rfl); (case zqF => k_asm); (case zqN => k_asm); (case zqa => exact rfl); (case zqb => exact rfl); (case zqc => exact rfl)); (all_goals (try intro o' f' b' t' pre' n' u' v' h' tk' own' ho' hoff' F' N'))))
  k_with "exec Assign cons ListComp" => ((k_here; k_dflt (refine Assign_txt (by k_asm) (by rfl) (by with_unfolding_all rfl) (by with_unfolding_all rfl) (by decide) (by rfl) (by decide) (by rfl) (by rfl) (by rfl) ?_ (by intro _; rfl))))
  k_with "eval ListComp" => ((k_here; k_dflt (refine ListComp_pairs (by k_asm) (by with_unfolding_all rfl) (by decide) (by rfl) (by decide) (by rfl) (by rfl) (by decide) ?_ (by intro _; rfl))))
  k_with "TxtU" => ((k_here; (with_reducible show TxtU _ _ _ _ _ _ _ (Expr.IfExp _ _ _ _) _ _ _ _ _ _); k_dflt (refine' TxtU.intro ?zqh ?zqF ?zqN ?zqz ?_; (case zqh => exact rfl); (case zqF => k_asm); (case zqN => k_asm); (case zqz => omega)); intro g9; (refine rest_txt heldL (fun c' t' I' oI' C' oC' D' m' ys' h' tk' E' hc' hC' hx' F' N' off' ne' => ?_) (fun ys' hy' => ?_)); (all_goals (try simp only [Off3, and_true] at off'))))
  k_with "TxtU" => ((k_here; (with_reducible show TxtU _ _ _ _ _ _ _ (Expr.List _ _) _ _ _ _ _ _); k_dflt (refine' TxtU.intro ?zqh ?zqF ?zqN ?zqz ?_; (case zqh => exact rfl); (case zqF => k_asm); (case zqN => k_asm); (case zqz => omega)); intro g9; (refine rest_pairs_of (by assumption) (fun nw' c' t' I' oI' C' oC' D' m' ys' h' tk' E' hc' hsub' hC' hx' F' N' off' ne' => ?_) (fun ys' nw' hsub' hy' => ?_)); (all_goals (have hcm' := hsub' _ (List.Mem.head _)))))
  k_with "PairSrc" => ((k_here; k_dflt (refine' PairSrc_of (by assumption) ?zqP ?zqh ?zqF ?zqN ?zqm ?zqz ?_ ?_; (case zqh => exact rfl); (case zqF => k_asm); (case zqN => k_asm); (case zqP => exact PairsAre.more (fun p hp => List.Mem.tail _ hp) (by assumption)); (case zqm => k_mem); (case zqz => omega)); intro c' t' u' I' oI' C' oC' D' m' ys' h' tk' E' hc' hC' hx' hx2' F' N' off' ne'))
  k_with "call ref" => ((k_here; k_dflt (first | (refine' says_use (c_spelled _ _ _ _ _ _ _ _ ?zqh1 ?zqh2) ?zqB ?zqF ?zqX ?zqN ?zqT ?zqk ?zqd ?zqu ?zqp ?_; (case zqh1 => omega); (case zqh2 => omega); (case zqB => k_asm); (case zqF => k_asm); (case zqX => k_asm); (case zqN => k_asm); (case zqT => k_asm); (case zqk => first | exact rfl | assumption); (case zqd => ktr_room); (case zqu => ktr_units); (case zqp => trivial); k_whole; intro r9 h9 tk9 F9 N9 hr9; obtain ⟨t9, hq9⟩ := hr9; subst hq9; k_sweep))))
  unfold Says
  k_fill
  intro dp un gd cn cs a ccd cl outer A₀ base h₀ L m s Q E B F X T hk hd hu hp hret
  refine wpAny_call ?_
  (refine' enterC ?k1 ?k2 ?k3 ?k5 ?kA ?kF ?kK ?k6 ?k7 ?k8 ?k9 ?kB ?kD ?_ ?c2 ?c3 ?c4; (case kA => exact rfl); (case kF => exact rfl); (case kK => assumption); (case k1 => k_asm); (case k2 => k_asm); (case k3 => k_asm); (case k5 => k_asm); (case k6 => k_is); (case k7 => k_is); (case k8 => ktr_room); (case k9 => first | exact BindsTo.of_eq rfl | exact binds_K (by k_in) rfl (by k_is) rfl rfl rfl); (case kB => exact rfl); (case kD => decide +kernel); (case c2 => exact rfl); (case c3 => exact rfl); (case c4 => exact rfl); k_whole; intro L' h' tk cells' F' N' Y' B' X' T'; k_cells Y'; (try simp only [List.cons_append, List.nil_append] at N'); (try dsimp only); (try k_lift B'); (try k_fold))
  have hkind : KindIs k := ⟨⟩
  k_steps
  all_goals exact hret _ _ _ (by assumption) ⟨_, rfl⟩
end Mine
end

/-! ## MayA -/
section
open PySem PySem.W PySem.Calls PySem.Spec PyProof.Rows PyProof.Rows.LCg
set_option maxRecDepth 100000
namespace Mine

/-- the two kinds of a call of _law_may, for the tactics -/
inductive TwoKinds (a b : Int) : Prop | mk
section
variable {prog : Program} {w : World} {A : Around} {h₀ : Heap} {L : Addr} {m : Str → Option Value} {env : Env} {ct elt : Expr} {x : Str} {scope : Scope} {cl : List (Str × Addr)} {s : Shared} {Fin : List Value → List (Addr × Obj) → Prop} {news : List (Addr × Obj)} {l : List Nat}
def dif (a b : Int) (c : Nat) : Bool := spellL a c != spellL b c
theorem rest_tests {a b : Int} (_ : TwoKinds a b)
    (turn : ∀ c t I oI C oC D m₂ ys h tk (E' : Value → Shared → Prop), c ∈ l → NsObj oC m₂ → m₂ x = some (.str (S [c]) t) → Fr h₀ L h m → News h₀ L h ((I, oI) :: (C, oC) :: (D, lst ys) :: news) → Off3 I C D news → ((@Ne Nat I C) ∧ (@Ne Nat I D) ∧ (@Ne Nat C D)) →
      wpAny (model prog w) A (isTrue ct (compEnvC scope cl C env) (eval ct (compEnvC scope cl C env))) (fun ok s' => if ok = true then
        wpAny (model prog w) A (eval elt (compEnvC scope cl C env)) (CompEnd h₀ L m { s with heap := h, toks := tk } I oI C oC D (lst ys) (fun _ => True) (fun y news' => dif a b c = true ∧ StrEl news (S [c]) y news')) E' s'
        else CompEnd h₀ L m { s with heap := h, toks := tk } I oI C oC D (lst ys) (fun _ => True) (fun _ news' => dif a b c = false ∧ news' = news) Value.none s') E' { s with heap := h, toks := tk })
    (fin : ∀ ys, StrsAre ys ((l.filter (dif a b)).map fun c => S [c]) → Fin ys news) : LCt.CompRestT prog w A h₀ L m env ct elt x scope cl s (fun _ => True) (SignAt (S l)) Fin l.length 0 [] news := rest_test (dif a b) turn fin
end
section
variable {h₀ : Heap} {L I C D : Addr} {m : Str → Option Value} {s₁ : Shared} {oI oC oD : Obj} {nw : List (Addr × Obj)} {c : Nat} {h' : Heap} {tk : Nat} {t : Tok} {a b : Int}
theorem test_end (F : Fr h₀ L h' m) (N : News h₀ L h' ((I, oI) :: (C, oC) :: (D, oD) :: nw)) (off : Off3 I C D nw) (h : (spellL a c != spellL b c) = true) :
    CompEnd h₀ L m s₁ I oI C oC D oD (fun _ => True) (fun y news' => dif a b c = true ∧ StrEl nw (S [c]) y news') (.str (S [c]) t) { s₁ with heap := h', toks := tk } :=
  CompEnd.intro F N nw (fun _ hp => hp) off trivial ⟨h, rfl, t, rfl⟩
theorem test_skip {v : Value} (F : Fr h₀ L h' m) (N : News h₀ L h' ((I, oI) :: (C, oC) :: (D, oD) :: nw)) (off : Off3 I C D nw) (h : (spellL a c != spellL b c) = false) :
    CompEnd h₀ L m s₁ I oI C oC D oD (fun _ => True) (fun _ news' => dif a b c = false ∧ news' = nw) v { s₁ with heap := h', toks := tk } :=
  CompEnd.intro F N nw (fun _ hp => hp) off trivial ⟨h, rfl⟩
end
section
variable {prog : Program} {w : World} {A : Around} {E : Value → Shared → Prop} {s : Shared} {a b : Addr} {xs ys : List Value} {ns ms : List Str} {Q : Value → Shared → Prop} {h₀ : Heap} {L : Addr} {news : List (Addr × Obj)}
theorem eq_strs (N : News h₀ L s.heap news) (ha : (a, lst xs) ∈ news) (hb : (b, lst []) ∈ news) (hi : StrsAre xs ns) (hu : A.units < cLine) (h : Q (.bool (decide (ns = []))) s) :
    wpAny (model prog w) A (compareOp .Eq (.ref a) (.ref b)) Q E s := by
  cases hi with
  | nil => exact SeqAt.eq_listAt (e := fun _ => true) (N.isList ha) (N.isList hb) rfl hu (fun j h1 _ => absurd h1 (Nat.not_lt_zero _)) h
  | cons x t r => exact SeqAt.eq_list_lengthsAt (N.isList ha) (N.isList hb) rfl hu h
theorem ne_strs (N : News h₀ L s.heap news) (ha : (a, lst xs) ∈ news) (hb : (b, lst ys) ∈ news) (hi : StrsAre xs ns) (hj : StrsAre ys ns) (hu : A.units < cLine) (h : Q (.bool false) s) :
    wpAny (model prog w) A (compareOp .NotEq (.ref a) (.ref b)) Q E s := by
  have l1 := hi.length
  have l2 := hj.length
  refine SeqAt.RcNeAt.lists (e := fun _ => true) (N.isList ha) (N.isList hb) (by simp [l1, l2]) hu (fun j h1 h2 => ?_) prog w E Q (by rw [List.all_eq_true.mpr fun _ _ => rfl]; exact h)
  have k1 : j < ns.length := by rw [← l1]; simpa using h1
  obtain ⟨t1, e1⟩ := StrsAre.at hi (List.getElem?_eq_getElem k1)
  obtain ⟨t2, e2⟩ := StrsAre.at hj (List.getElem?_eq_getElem k1)
  have q1 : xs.toArray[j] = .str ns[j] t1 := by rw [List.getElem?_eq_getElem (by omega)] at e1; simpa using e1
  have q2 : ys.toArray[j] = .str ns[j] t2 := by rw [List.getElem?_eq_getElem (by omega)] at e2; simpa using e2
  rw [q1, q2]
  have := SeqAt.EqAt.str_str (A := A.in1) (s := s) ns[j] t1 ns[j] t2
  rwa [beq_self_eq_true] at this
end
theorem replaceM {prog : Program} {w : World} {A : Around} {E : Value → Shared → Prop} {s : Shared} {l : List Nat} {y z : Str} {t u v : Tok} {Q : Value → Shared → Prop} (hs : 0 < s.toks) (hu : u ≠ 0) (hv : v ≠ 0) (huv : u ≠ v) (hyz : (y == z) = false) (hx : l.length ≤ 100) (hz : z.length ≤ 6)
    (hq : ∀ t' k, 0 < k → Q (.str (Txt.replace (S l) y z) t') { s with toks := k }) : wpAny (model prog w) A (call (.builtin "str.replace") [.str (S l) t, .str y u, .str z v]) Q E s :=
  replaceS hs hu hv huv hyz (by omega) hz hq
def has (x y : Str) : Bool := !(Builtin.Str.occurrences x y 0 x.length 1).isEmpty
def may0L (b : Int) (l : List Nat) : Bool :=
  if b = 1 then Txt.slice (S l) none (some 1) != Str.ofString "." else if b = 2 ∨ b = 4 then true
  else if b = 3 then (if has (S l) (Str.ofString "\r") then false else !has (S l) (Str.ofString "\n"))
  else if has (Txt.replace (S l) (Str.ofString "\r\n") (Str.ofString "")) (Str.ofString "\r") then false else if has (Txt.replace (S l) (Str.ofString "\r\n") (Str.ofString "")) (Str.ofString "\n") then false else !has (S l) (Str.ofString "\n.")
theorem has_yes {x y : Str} (h : (Builtin.Str.occurrences x y 0 x.length 1).isEmpty = false) : has x y = true := by unfold has; rw [h]; rfl
theorem has_no {x y : Str} (h : (Builtin.Str.occurrences x y 0 x.length 1).isEmpty = true) : has x y = false := by unfold has; rw [h]; rfl
theorem m0_1 {b : Int} {l : List Nat} (h : b = 1) : Value.bool (Txt.slice (S l) none (some 1) != Str.ofString ".") = .bool (may0L b l) := by unfold may0L; rw [if_pos h]
theorem m0_2 {b : Int} {l : List Nat} (h : b = 2) : Value.bool true = .bool (may0L b l) := by subst h; rfl
theorem m0_4 {b : Int} {l : List Nat} (h : b = 4) : Value.bool true = .bool (may0L b l) := by subst h; rfl
theorem m0_3a {b : Int} {l : List Nat} (h : b = 3) (h1 : (Builtin.Str.occurrences (S l) (Str.ofString "\r") 0 (S l).length 1).isEmpty = false) : Value.bool false = .bool (may0L b l) := by
  subst h; simp [may0L, has_yes h1]
theorem m0_3b {b : Int} {l : List Nat} (h : b = 3) (h1 : (Builtin.Str.occurrences (S l) (Str.ofString "\r") 0 (S l).length 1).isEmpty = true) (h2 : (Builtin.Str.occurrences (S l) (Str.ofString "\n") 0 (S l).length 1).isEmpty = false) : Value.bool false = .bool (may0L b l) := by
  subst h; simp [may0L, has_no h1, has_yes h2]
theorem m0_3c {b : Int} {l : List Nat} (h : b = 3) (h1 : (Builtin.Str.occurrences (S l) (Str.ofString "\r") 0 (S l).length 1).isEmpty = true) (h2 : (Builtin.Str.occurrences (S l) (Str.ofString "\n") 0 (S l).length 1).isEmpty = true) : Value.bool (b == 3) = .bool (may0L b l) := by
  subst h; simp [may0L, has_no h1, has_no h2]
theorem m0_5 {b : Int} {l : List Nat} (k1 : b ≠ 1) (k2 : b ≠ 2) (k3 : b ≠ 4) (k4 : b ≠ 3) : may0L b l = if has (Txt.replace (S l) (Str.ofString "\r\n") (Str.ofString "")) (Str.ofString "\r") then false else if has (Txt.replace (S l) (Str.ofString "\r\n") (Str.ofString "")) (Str.ofString "\n") then false else !has (S l) (Str.ofString "\n.") := by
  unfold may0L; rw [if_neg k1, if_neg (by omega), if_neg k4]
theorem m0_5a {b : Int} {l : List Nat} (k1 : b ≠ 1) (k2 : b ≠ 2) (k3 : b ≠ 4) (k4 : b ≠ 3) (h1 : (Builtin.Str.occurrences (Txt.replace (S l) (Str.ofString "\r\n") (Str.ofString "")) (Str.ofString "\r") 0 (Txt.replace (S l) (Str.ofString "\r\n") (Str.ofString "")).length 1).isEmpty = false) : Value.bool false = .bool (may0L b l) := by
  rw [m0_5 k1 k2 k3 k4]; simp [has_yes h1]
theorem m0_5b {b : Int} {l : List Nat} (k1 : b ≠ 1) (k2 : b ≠ 2) (k3 : b ≠ 4) (k4 : b ≠ 3) (h1 : (Builtin.Str.occurrences (Txt.replace (S l) (Str.ofString "\r\n") (Str.ofString "")) (Str.ofString "\r") 0 (Txt.replace (S l) (Str.ofString "\r\n") (Str.ofString "")).length 1).isEmpty = true)
    (h2 : (Builtin.Str.occurrences (Txt.replace (S l) (Str.ofString "\r\n") (Str.ofString "")) (Str.ofString "\n") 0 (Txt.replace (S l) (Str.ofString "\r\n") (Str.ofString "")).length 1).isEmpty = false) : Value.bool false = .bool (may0L b l) := by
  rw [m0_5 k1 k2 k3 k4]; simp [has_no h1, has_yes h2]
theorem m0_5c {b : Int} {l : List Nat} (k1 : b ≠ 1) (k2 : b ≠ 2) (k3 : b ≠ 4) (k4 : b ≠ 3) (h1 : (Builtin.Str.occurrences (Txt.replace (S l) (Str.ofString "\r\n") (Str.ofString "")) (Str.ofString "\r") 0 (Txt.replace (S l) (Str.ofString "\r\n") (Str.ofString "")).length 1).isEmpty = true)
    (h2 : (Builtin.Str.occurrences (Txt.replace (S l) (Str.ofString "\r\n") (Str.ofString "")) (Str.ofString "\n") 0 (Txt.replace (S l) (Str.ofString "\r\n") (Str.ofString "")).length 1).isEmpty = true) : Value.bool (!!(Builtin.Str.occurrences (S l) (Str.ofString "\n.") 0 (S l).length 1).isEmpty) = .bool (may0L b l) := by
  rw [m0_5 k1 k2 k3 k4]; simp [has_no h1, has_no h2]; simp [has]
theorem m1_a {b : Int} {l : List Nat} (h : b < 4) : Value.bool (decide (b < 4)) = .bool (decide (b < 4) || S l == Str.ofString "") := by simp [h]
theorem m1_b {b : Int} {l : List Nat} (h : ¬ b < 4) : Value.bool (S l == Str.ofString "") = .bool (decide (b < 4) || S l == Str.ofString "") := by simp [h]
theorem m2_a {a b : Int} {l : List Nat} : Value.bool (decide (((l.filter (dif a b)).map fun c => S [c]) = [])) = .bool (l.filter (dif a b)).isEmpty := by
  cases l.filter (dif a b) <;> simp
end Mine
end

/-! ## CMay0 -/
section
open PySem PySem.W PySem.Calls PySem.Spec PyProof.Rows PyProof.Rows.LCg
set_option maxRecDepth 100000
namespace Mine
local macro_rules | `(tactic| walk_at $s:str) => `(tactic| k_extra $s)

local macro_rules | `(tactic| k_mem) => `(tactic| assumption)
set_option maxHeartbeats 8000000 in
theorem c_may0 (w : World) (mean : ExcName → Option Value) (mg mb : Str → Option Value) (ka kb : Int) (l : List Nat) (t1 t2 t3 : Tok) (hk0 : ka = 0) (hk2 : 1 ≤ kb) (hk3 : kb ≤ 6) (hx : l.length ≤ 100) :
    Says w mean mg mb 2 142 [.int ka t1, .int kb t2, .str (S l) t3] (fun _ => True) (fun r => r = .bool (may0L kb l)) := by
  w_top off
  k_with_none
  k_with "own k_mem2" => (first | exact List.Mem.head _ | exact List.Mem.tail _ (List.Mem.head _) | exact List.Mem.tail _ (List.Mem.tail _ (List.Mem.head _)) | assumption)
  k_with "ite" => ((k_here; k_dflt (first | refine ite_pos (by first | omega | (simp only [beq_iff_eq, decide_eq_true_eq]; omega)) ?_ | refine ite_neg (by first | omega | (simp only [beq_iff_eq, decide_eq_true_eq]; omega)) ?_)))
  k_with "CompEnd" => ((k_here; k_dflt (first | (refine' test_end ?zqF ?zqN ?zqo ?zqd; (case zqF => k_asm); (case zqN => k_asm); (case zqo => assumption); (case zqd => assumption)) | (refine' test_skip ?zqF ?zqN ?zqo ?zqd; (case zqF => k_asm); (case zqN => k_asm); (case zqo => assumption); (case zqd => assumption)))))
  k_with "eval ListComp" => ((k_here; k_dflt (refine ListComp_txtT (by k_asm) (by with_unfolding_all rfl) (by decide) (by rfl) (by decide) (by rfl) ?_ (by intro _; rfl))))
  k_with "TxtT" => ((k_here; k_dflt (refine' TxtT.intro ?zqh ?zqF ?zqN ?zqz ?_; (case zqh => exact rfl); (case zqF => k_asm); (case zqN => k_asm); (case zqz => omega)); intro g9; (refine rest_tests (by assumption) (fun c' t' I' oI' C' oC' D' m' ys' h' tk' E' hc' hC' hx' F' N' off' ne' => ?_) (fun ys' hy' => ?_)); (all_goals (try simp only [Off3, and_true] at off'))))
  k_with "compareOp Eq ref ref" => ((k_here; (with_reducible show wpAny _ _ (compareOp CmpOp.Eq (Value.ref _) (Value.ref _)) _ _ _); k_dflt (refine' eq_strs ?zqN ?zqa ?zqb ?zqi ?zqu ?_; (case zqN => k_asm); (case zqa => k_extra "own k_mem2"); (case zqb => k_extra "own k_mem2"); (case zqi => assumption); (case zqu => ktr_units))))
  k_with "call builtin:str.replace" => (((with_reducible show wpAny _ _ (call (Value.builtin "str.replace") [Value.str _ _, Value.str _ _, Value.str _ _]) _ _ _); k_dflt (refine replaceM ?zqhs ?zqhu ?zqhv ?zqhuv ?zqhyz ?zqhx ?zqhz ?_; (case zqhs => (dsimp only; omega)); (case zqhu => (show @Ne Nat _ _; omega)); (case zqhv => (show @Ne Nat _ _; omega)); (case zqhuv => (show @Ne Nat _ _; omega)); (case zqhyz => decide); (case zqhx => omega); (case zqhz => decide); intro _ _ _)))
  k_with "call ref" => ((k_here; k_dflt (first | (refine' says_use (c_spelled _ _ _ _ _ _ _ _ ?zqh1 ?zqh2) ?zqB ?zqF ?zqX ?zqN ?zqT ?zqk ?zqd ?zqu ?zqp ?_; (case zqh1 => omega); (case zqh2 => omega); (case zqB => k_asm); (case zqF => k_asm); (case zqX => k_asm); (case zqN => k_asm); (case zqT => k_asm); (case zqk => first | exact rfl | assumption); (case zqd => ktr_room); (case zqu => ktr_units); (case zqp => trivial); k_whole; intro r9 h9 tk9 F9 N9 hr9; obtain ⟨t9, hq9⟩ := hr9; subst hq9; k_sweep))))
  unfold Says
  k_fill
  intro dp un gd cn cs a ccd cl outer A₀ base h₀ L m s Q E B F X T hk hd hu hp hret
  refine wpAny_call ?_
  (refine' enterC ?k1 ?k2 ?k3 ?k5 ?kA ?kF ?kK ?k6 ?k7 ?k8 ?k9 ?kB ?kD ?_ ?c2 ?c3 ?c4; (case kA => exact rfl); (case kF => exact rfl); (case kK => assumption); (case k1 => k_asm); (case k2 => k_asm); (case k3 => k_asm); (case k5 => k_asm); (case k6 => k_is); (case k7 => k_is); (case k8 => ktr_room); (case k9 => first | exact BindsTo.of_eq rfl | exact binds_K (by k_in) rfl (by k_is) rfl rfl rfl); (case kB => exact rfl); (case kD => decide +kernel); (case c2 => exact rfl); (case c3 => exact rfl); (case c4 => exact rfl); k_whole; intro L' h' tk cells' F' N' Y' B' X' T'; k_cells Y'; (try simp only [List.cons_append, List.nil_append] at N'); (try dsimp only); (try k_lift B'); (try k_fold))
  have hkind : TwoKinds ka kb := ⟨⟩
  k_steps
  all_goals first
    | exact hret _ _ _ (by assumption) (m0_1 (by with_reducible assumption))
    | exact hret _ _ _ (by assumption) (m0_2 (by with_reducible assumption))
    | exact hret _ _ _ (by assumption) (m0_4 (by with_reducible assumption))
    | exact hret _ _ _ (by assumption) (m0_3a (by with_reducible assumption) (by with_reducible assumption))
    | exact hret _ _ _ (by assumption) (m0_3b (by with_reducible assumption) (by with_reducible assumption) (by with_reducible assumption))
    | exact hret _ _ _ (by assumption) (m0_3c (by with_reducible assumption) (by with_reducible assumption) (by with_reducible assumption))
    | exact hret _ _ _ (by assumption) (m0_5a (by with_reducible assumption) (by with_reducible assumption) (by with_reducible assumption) (by with_reducible assumption) (by with_reducible assumption))
    | exact hret _ _ _ (by assumption) (m0_5b (by with_reducible assumption) (by with_reducible assumption) (by with_reducible assumption) (by with_reducible assumption) (by with_reducible assumption) (by with_reducible assumption))
    | exact hret _ _ _ (by assumption) (m0_5c (by with_reducible assumption) (by with_reducible assumption) (by with_reducible assumption) (by with_reducible assumption) (by with_reducible assumption) (by with_reducible assumption))

end Mine
end

/-! ## CMay1 -/
section
open PySem PySem.W PySem.Calls PySem.Spec PyProof.Rows PyProof.Rows.LCg
set_option maxRecDepth 100000
namespace Mine
local macro_rules | `(tactic| walk_at $s:str) => `(tactic| k_extra $s)

local macro_rules | `(tactic| k_mem) => `(tactic| assumption)
set_option maxHeartbeats 8000000 in
theorem c_may1 (w : World) (mean : ExcName → Option Value) (mg mb : Str → Option Value) (ka kb : Int) (l : List Nat) (t1 t2 t3 : Tok) (hk0 : ka = 1) (hk2 : 2 ≤ kb) (hk3 : kb ≤ 6) (hx : l.length ≤ 100) :
    Says w mean mg mb 2 142 [.int ka t1, .int kb t2, .str (S l) t3] (fun _ => True) (fun r => r = .bool (decide (kb < 4) || S l == Str.ofString "")) := by
  w_top off
  k_with_none
  k_with "own k_mem2" => (first | exact List.Mem.head _ | exact List.Mem.tail _ (List.Mem.head _) | exact List.Mem.tail _ (List.Mem.tail _ (List.Mem.head _)) | assumption)
  k_with "ite" => ((k_here; k_dflt (first | refine ite_pos (by first | omega | (simp only [beq_iff_eq, decide_eq_true_eq]; omega)) ?_ | refine ite_neg (by first | omega | (simp only [beq_iff_eq, decide_eq_true_eq]; omega)) ?_)))
  k_with "CompEnd" => ((k_here; k_dflt (first | (refine' test_end ?zqF ?zqN ?zqo ?zqd; (case zqF => k_asm); (case zqN => k_asm); (case zqo => assumption); (case zqd => assumption)) | (refine' test_skip ?zqF ?zqN ?zqo ?zqd; (case zqF => k_asm); (case zqN => k_asm); (case zqo => assumption); (case zqd => assumption)))))
  k_with "eval ListComp" => ((k_here; k_dflt (refine ListComp_txtT (by k_asm) (by with_unfolding_all rfl) (by decide) (by rfl) (by decide) (by rfl) ?_ (by intro _; rfl))))
  k_with "TxtT" => ((k_here; k_dflt (refine' TxtT.intro ?zqh ?zqF ?zqN ?zqz ?_; (case zqh => exact rfl); (case zqF => k_asm); (case zqN => k_asm); (case zqz => omega)); intro g9; (refine rest_tests (by assumption) (fun c' t' I' oI' C' oC' D' m' ys' h' tk' E' hc' hC' hx' F' N' off' ne' => ?_) (fun ys' hy' => ?_)); (all_goals (try simp only [Off3, and_true] at off'))))
  k_with "compareOp Eq ref ref" => ((k_here; (with_reducible show wpAny _ _ (compareOp CmpOp.Eq (Value.ref _) (Value.ref _)) _ _ _); k_dflt (refine' eq_strs ?zqN ?zqa ?zqb ?zqi ?zqu ?_; (case zqN => k_asm); (case zqa => k_extra "own k_mem2"); (case zqb => k_extra "own k_mem2"); (case zqi => assumption); (case zqu => ktr_units))))
  k_with "call builtin:str.replace" => (((with_reducible show wpAny _ _ (call (Value.builtin "str.replace") [Value.str _ _, Value.str _ _, Value.str _ _]) _ _ _); k_dflt (refine replaceM ?zqhs ?zqhu ?zqhv ?zqhuv ?zqhyz ?zqhx ?zqhz ?_; (case zqhs => (dsimp only; omega)); (case zqhu => (show @Ne Nat _ _; omega)); (case zqhv => (show @Ne Nat _ _; omega)); (case zqhuv => (show @Ne Nat _ _; omega)); (case zqhyz => decide); (case zqhx => omega); (case zqhz => decide); intro _ _ _)))
  k_with "call ref" => ((k_here; k_dflt (first | (refine' says_use (c_spelled _ _ _ _ _ _ _ _ ?zqh1 ?zqh2) ?zqB ?zqF ?zqX ?zqN ?zqT ?zqk ?zqd ?zqu ?zqp ?_; (case zqh1 => omega); (case zqh2 => omega); (case zqB => k_asm); (case zqF => k_asm); (case zqX => k_asm); (case zqN => k_asm); (case zqT => k_asm); (case zqk => first | exact rfl | assumption); (case zqd => ktr_room); (case zqu => ktr_units); (case zqp => trivial); k_whole; intro r9 h9 tk9 F9 N9 hr9; obtain ⟨t9, hq9⟩ := hr9; subst hq9; k_sweep))))
  unfold Says
  k_fill
  intro dp un gd cn cs a ccd cl outer A₀ base h₀ L m s Q E B F X T hk hd hu hp hret
  refine wpAny_call ?_
  (refine' enterC ?k1 ?k2 ?k3 ?k5 ?kA ?kF ?kK ?k6 ?k7 ?k8 ?k9 ?kB ?kD ?_ ?c2 ?c3 ?c4; (case kA => exact rfl); (case kF => exact rfl); (case kK => assumption); (case k1 => k_asm); (case k2 => k_asm); (case k3 => k_asm); (case k5 => k_asm); (case k6 => k_is); (case k7 => k_is); (case k8 => ktr_room); (case k9 => first | exact BindsTo.of_eq rfl | exact binds_K (by k_in) rfl (by k_is) rfl rfl rfl); (case kB => exact rfl); (case kD => decide +kernel); (case c2 => exact rfl); (case c3 => exact rfl); (case c4 => exact rfl); k_whole; intro L' h' tk cells' F' N' Y' B' X' T'; k_cells Y'; (try simp only [List.cons_append, List.nil_append] at N'); (try dsimp only); (try k_lift B'); (try k_fold))
  have hkind : TwoKinds ka kb := ⟨⟩
  k_steps
  all_goals first
    | exact hret _ _ _ (by assumption) (m1_a (by assumption))
    | exact hret _ _ _ (by assumption) (m1_b (by assumption))

end Mine
end

/-! ## CMay2 -/
section
open PySem PySem.W PySem.Calls PySem.Spec PyProof.Rows PyProof.Rows.LCg
set_option maxRecDepth 100000
namespace Mine
local macro_rules | `(tactic| walk_at $s:str) => `(tactic| k_extra $s)

local macro_rules | `(tactic| k_mem) => `(tactic| assumption)
set_option maxHeartbeats 8000000 in
theorem c_may2 (w : World) (mean : ExcName → Option Value) (mg mb : Str → Option Value) (ka kb : Int) (l : List Nat) (t1 t2 t3 : Tok) (hk0 : 2 ≤ ka) (hk1 : ka ≤ 6) (hk2 : 2 ≤ kb) (hk3 : kb ≤ 6) (hx : l.length ≤ 100) :
    Says w mean mg mb 2 142 [.int ka t1, .int kb t2, .str (S l) t3] (fun _ => True) (fun r => r = .bool ((l.filter (dif ka kb)).isEmpty)) := by
  w_top off
  k_with_none
  k_with "own k_mem2" => (first | exact List.Mem.head _ | exact List.Mem.tail _ (List.Mem.head _) | exact List.Mem.tail _ (List.Mem.tail _ (List.Mem.head _)) | assumption)
  k_with "ite" => ((k_here; k_dflt (first | refine ite_pos (by first | omega | (simp only [beq_iff_eq, decide_eq_true_eq]; omega)) ?_ | refine ite_neg (by first | omega | (simp only [beq_iff_eq, decide_eq_true_eq]; omega)) ?_)))
  k_with "CompEnd" => ((k_here; k_dflt (first | (refine' test_end ?zqF ?zqN ?zqo ?zqd; (case zqF => k_asm); (case zqN => k_asm); (case zqo => assumption); (case zqd => assumption)) | (refine' test_skip ?zqF ?zqN ?zqo ?zqd; (case zqF => k_asm); (case zqN => k_asm); (case zqo => assumption); (case zqd => assumption)))))
  k_with "eval ListComp" => ((k_here; k_dflt (refine ListComp_txtT (by k_asm) (by with_unfolding_all rfl) (by decide) (by rfl) (by decide) (by rfl) ?_ (by intro _; rfl))))
  k_with "TxtT" => ((k_here; k_dflt (refine' TxtT.intro ?zqh ?zqF ?zqN ?zqz ?_; (case zqh => exact rfl); (case zqF => k_asm); (case zqN => k_asm); (case zqz => omega)); intro g9; (refine rest_tests (by assumption) (fun c' t' I' oI' C' oC' D' m' ys' h' tk' E' hc' hC' hx' F' N' off' ne' => ?_) (fun ys' hy' => ?_)); (all_goals (try simp only [Off3, and_true] at off'))))
  k_with "compareOp Eq ref ref" => ((k_here; (with_reducible show wpAny _ _ (compareOp CmpOp.Eq (Value.ref _) (Value.ref _)) _ _ _); k_dflt (refine' eq_strs ?zqN ?zqa ?zqb ?zqi ?zqu ?_; (case zqN => k_asm); (case zqa => k_extra "own k_mem2"); (case zqb => k_extra "own k_mem2"); (case zqi => assumption); (case zqu => ktr_units))))
  k_with "call builtin:str.replace" => (((with_reducible show wpAny _ _ (call (Value.builtin "str.replace") [Value.str _ _, Value.str _ _, Value.str _ _]) _ _ _); k_dflt (refine replaceM ?zqhs ?zqhu ?zqhv ?zqhuv ?zqhyz ?zqhx ?zqhz ?_; (case zqhs => (dsimp only; omega)); (case zqhu => (show @Ne Nat _ _; omega)); (case zqhv => (show @Ne Nat _ _; omega)); (case zqhuv => (show @Ne Nat _ _; omega)); (case zqhyz => decide); (case zqhx => omega); (case zqhz => decide); intro _ _ _)))
  k_with "call ref" => ((k_here; k_dflt (first | (refine' says_use (c_spelled _ _ _ _ _ _ _ _ ?zqh1 ?zqh2) ?zqB ?zqF ?zqX ?zqN ?zqT ?zqk ?zqd ?zqu ?zqp ?_; (case zqh1 => omega); (case zqh2 => omega); (case zqB => k_asm); (case zqF => k_asm); (case zqX => k_asm); (case zqN => k_asm); (case zqT => k_asm); (case zqk => first | exact rfl | assumption); (case zqd => ktr_room); (case zqu => ktr_units); (case zqp => trivial); k_whole; intro r9 h9 tk9 F9 N9 hr9; obtain ⟨t9, hq9⟩ := hr9; subst hq9; k_sweep))))
  unfold Says
  k_fill
  intro dp un gd cn cs a ccd cl outer A₀ base h₀ L m s Q E B F X T hk hd hu hp hret
  refine wpAny_call ?_
  (refine' enterC ?k1 ?k2 ?k3 ?k5 ?kA ?kF ?kK ?k6 ?k7 ?k8 ?k9 ?kB ?kD ?_ ?c2 ?c3 ?c4; (case kA => exact rfl); (case kF => exact rfl); (case kK => assumption); (case k1 => k_asm); (case k2 => k_asm); (case k3 => k_asm); (case k5 => k_asm); (case k6 => k_is); (case k7 => k_is); (case k8 => ktr_room); (case k9 => first | exact BindsTo.of_eq rfl | exact binds_K (by k_in) rfl (by k_is) rfl rfl rfl); (case kB => exact rfl); (case kD => decide +kernel); (case c2 => exact rfl); (case c3 => exact rfl); (case c4 => exact rfl); k_whole; intro L' h' tk cells' F' N' Y' B' X' T'; k_cells Y'; (try simp only [List.cons_append, List.nil_append] at N'); (try dsimp only); (try k_lift B'); (try k_fold))
  have hkind : TwoKinds ka kb := ⟨⟩
  k_steps
  all_goals first
    | assumption
    | exact ⟨rfl, _, rfl⟩
    | exact hret _ _ _ (by assumption) m2_a

end Mine
end

/-! ## CWords -/
section
open PySem PySem.W PySem.Calls PySem.Spec PyProof.Rows PyProof.Rows.LCg
set_option maxRecDepth 100000
namespace Mine
local macro_rules | `(tactic| walk_at $s:str) => `(tactic| k_extra $s)

def wordsN : List Str := [Str.ofString "OPTIMIZED", Str.ofString "NEWLOCALS", Str.ofString "VARARGS", Str.ofString "VARKEYWORDS", Str.ofString "NESTED", Str.ofString "GENERATOR", Str.ofString "NOFREE", Str.ofString "COROUTINE", Str.ofString "ITERABLE_COROUTINE", Str.ofString "ASYNC_GENERATOR", Str.ofString "0x400", Str.ofString "0x800", Str.ofString "0x1000", Str.ofString "0x2000", Str.ofString "0x4000", Str.ofString "0x8000", Str.ofString "0x10000", Str.ofString "0x20000", Str.ofString "0x40000", Str.ofString "0x80000", Str.ofString "0x100000"]
/-- the word of a place -/
def wordT (n : Int) : Str := wordsN.getD n.toNat (S [])
/-- the words of some places -/
def wordsT (ns : List Int) : Str := if ns = [] then Str.ofString "0x0" else Txt.join (Str.ofString ", ") (ns.map wordT)

theorem wordT_len (n : Int) : (wordT n).length ≤ 18 := by
  unfold wordT
  have key : ∀ (T : List Str) (k : Nat), (∀ p ∈ T, p.length ≤ 18) → (T.getD k (S [])).length ≤ 18 := by
    intro T
    induction T with
    | nil => intro k _; exact Nat.zero_le _
    | cons x r ih =>
      intro k h
      cases k with
      | zero => exact h x (.head _)
      | succ k => exact ih k fun p hp => h p (.tail _ hp)
  exact key wordsN _ (by decide)
theorem cases21 {n : Int} (h : 0 ≤ n ∧ n ≤ 20) : n = 0 ∨ n = 1 ∨ n = 2 ∨ n = 3 ∨ n = 4 ∨ n = 5 ∨ n = 6 ∨ n = 7 ∨ n = 8 ∨ n = 9 ∨ n = 10 ∨ n = 11 ∨ n = 12 ∨ n = 13 ∨ n = 14 ∨ n = 15 ∨ n = 16 ∨ n = 17 ∨ n = 18 ∨ n = 19 ∨ n = 20 := by omega
theorem word_size {n : Int} (h : 0 ≤ n ∧ n ≤ 20) : (Str.ofString "0x" ++ Txt.item (Str.ofString "1248") (n.fmod 4)).length + (Txt.mul (Str.ofString "0") (n.fdiv 4)).length ≤ sizeLine := by
  rcases cases21 h with rfl | rfl | rfl | rfl | rfl | rfl | rfl | rfl | rfl | rfl | rfl | rfl | rfl | rfl | rfl | rfl | rfl | rfl | rfl | rfl | rfl <;> exact Nat.le_of_ble_eq_true rfl
theorem word_hi {n : Int} (h : 0 ≤ n ∧ n ≤ 20) (h2 : ¬ n < 10) : Str.ofString "0x" ++ Txt.item (Str.ofString "1248") (n.fmod 4) ++ Txt.mul (Str.ofString "0") (n.fdiv 4) = wordT n := by
  rcases cases21 h with rfl | rfl | rfl | rfl | rfl | rfl | rfl | rfl | rfl | rfl | rfl | rfl | rfl | rfl | rfl | rfl | rfl | rfl | rfl | rfl | rfl <;> first | (exfalso; omega) | decide
theorem word_lo {n : Int} (h : 0 ≤ n ∧ n ≤ 20) (h2 : n < 10) : [Str.ofString "OPTIMIZED", Str.ofString "NEWLOCALS", Str.ofString "VARARGS", Str.ofString "VARKEYWORDS", Str.ofString "NESTED", Str.ofString "GENERATOR", Str.ofString "NOFREE", Str.ofString "COROUTINE", Str.ofString "ITERABLE_COROUTINE", Str.ofString "ASYNC_GENERATOR"].getD n.toNat Str.empty = wordT n := by
  rcases cases21 h with rfl | rfl | rfl | rfl | rfl | rfl | rfl | rfl | rfl | rfl | rfl | rfl | rfl | rfl | rfl | rfl | rfl | rfl | rfl | rfl | rfl <;> first | (exfalso; omega) | rfl
theorem words_snoc {fs : List Str} {pre : List Int} {x : Str} {n : Int} (h : fs = pre.map wordT) (hx : x = wordT n) : fs ++ [x] = (pre ++ [n]).map wordT := by rw [h, hx, List.map_append]; rfl
theorem words_snoc2 {fs : List Str} {pre : List Int} {x : Str} {n : Int} (h1 : fs.length = pre.length) (h2 : fs = pre.map wordT) (hx : x = wordT n) : (fs ++ [x]).length = (pre ++ [n]).length ∧ fs ++ [x] = (pre ++ [n]).map wordT := ⟨by simp [h1], words_snoc h2 hx⟩
theorem words_none {fs : List Str} {ns : List Int} {t : Tok} (h : fs = ns.map wordT) (h0 : fs = []) : ∃ t', Value.str (Str.ofString "0x0") t = .str (wordsT ns) t' := by
  have : ns = [] := by rw [h0] at h; exact List.map_eq_nil_iff.mp h.symm
  subst this
  exact ⟨t, rfl⟩
theorem words_some {fs : List Str} {ns : List Int} {t : Tok} (h : fs = ns.map wordT) (h0 : ¬ fs = []) : ∃ t', Value.str (Txt.join (Str.ofString ", ") (ns.map wordT)) t = .str (wordsT ns) t' := by
  have : ns ≠ [] := fun e => h0 (by rw [h, e]; rfl)
  exact ⟨t, by unfold wordsT; rw [if_neg this]⟩
section
variable {prog : Program} {w : World} {A : Around} {E : Value → Shared → Prop} {s : Shared} {a b D : Addr} {xs : List Value} {ns : List Str} {ps : List Int} {h₀ : Heap} {L : Addr} {news : List (Addr × Obj)}
theorem ne_empty {Q : Value → Shared → Prop} {k k' : Nat} (N : News h₀ L s.heap news) (ha : (a, listOf xs.toArray k) ∈ news) (hb : (b, listOf (#[] : Array Value) k') ∈ news) (hi : StrsAre xs ns) (hu : A.units < cLine) (h : Q (.bool (!decide (ns = []))) s) :
    wpAny (model prog w) A (compareOp .NotEq (.ref a) (.ref b)) Q E s := by
  have H1 : s.heap.IsList a xs.toArray := ⟨_, N.get ha, rfl, _, rfl⟩
  have H2 : s.heap.IsList b #[] := ⟨_, N.get hb, rfl, _, rfl⟩
  cases hi with
  | nil => exact SeqAt.RcNeAt.lists (e := fun _ => true) H1 H2 rfl hu (fun j h1 _ => absurd h1 (Nat.not_lt_zero _)) prog w E Q h
  | cons x t r => exact SeqAt.RcNeAt.lists_lengths H1 H2 rfl hu prog w E Q h
theorem join_words {Q : Value → Shared → Prop} {k : Nat} {t : Tok} (N : News h₀ L s.heap news) (hm : (D, listOf xs.toArray k) ∈ news) (hy : StrsAre xs ns) (hn : ns = ps.map wordT) (hl : ps.length ≤ 21)
    (h : ∀ t k, Q (.str (Txt.join (Str.ofString ", ") (ps.map wordT)) t) { s with toks := k }) :
    wpAny (model prog w) A (call (.builtin "str.join") [.str (Str.ofString ", ") t, .ref D]) Q E s := by
  subst hn
  have e0 : (Str.ofString ", ").length = 2 := by decide
  have H1 : s.heap.IsList D xs.toArray := ⟨_, N.get hm, rfl, _, rfl⟩
  refine join_list H1 hy ?_ fun t' k => h t' k
  have key : ∀ l : List Int, ((l.map wordT).map (·.length)).sum ≤ 18 * l.length := by
    intro l
    induction l with
    | nil => exact Nat.zero_le _
    | cons c r ih =>
      have := wordT_len c
      simp only [List.map_cons, List.sum_cons, List.length_cons, Nat.mul_succ]
      omega
  have := key ps
  rw [e0]
  simp only [List.length_map] at *
  omega
end

set_option maxHeartbeats 8000000 in
theorem c_words (w : World) (mean : ExcName → Option Value) (mg mb : Str → Option Value) (q : Addr) (vs : List Value) (ns : List Int) (hi : IntsAre vs ns) (hn : ∀ n ∈ ns, 0 ≤ n ∧ n ≤ 20) (hx : ns.length ≤ 21) :
    Says w mean mg mb 2 149 [.ref q] (fun h => h.IsList q vs.toArray) (fun r => ∃ t', r = .str (wordsT ns) t') := by
  w_top off
  k_with_none
  k_with "binaryOp Add str str" => ((k_here; (with_reducible show wpAny _ _ (binaryOp Operator.Add (Value.str (_ ++ _) _) (Value.str (Txt.mul _ _) _)) _ _ _); k_dflt (refine SBL.add (hsz := word_size (by assumption)) fun _ _ _ => ?_)))
  k_with "compareOp NotEq ref ref" => ((k_here; (with_reducible show wpAny _ _ (compareOp CmpOp.NotEq (Value.ref _) (Value.ref _)) _ _ _); k_dflt (refine' ne_empty ?zqN ?zqa ?zqb ?zqi ?zqu ?_; (case zqN => k_asm); (case zqa => exact List.Mem.tail _ (List.Mem.head _)); (case zqb => exact List.Mem.head _); (case zqi => assumption); (case zqu => ktr_units))))
  k_with "call builtin:str.join" => ((k_here; (with_reducible show wpAny _ _ (call (Value.builtin "str.join") [Value.str _ _, Value.ref _]) _ _ _); k_dflt (refine' join_words ?zqN ?zqm ?zqy ?zqn ?zql ?_; (case zqN => k_asm); (case zqm => exact List.Mem.tail _ (List.Mem.head _)); (case zqy => assumption); (case zqn => assumption); (case zql => omega)); intro _ _))
  unfold Says
  k_fill
  intro dp un gd cn cs a ccd cl outer A₀ base h₀ L m s Q E B F X T hk hd hu hp hret
  refine wpAny_call ?_
  (refine' enter0 ?k1 ?k2 ?k3 ?k5 ?kA ?kF ?kK ?k6 ?k7 ?k8 ?k9 ?kB ?kP ?_ ?c5 ?c2 ?c3 ?c4; (case kA => exact rfl); (case kF => exact rfl); (case kK => assumption); (case k1 => k_asm); (case k2 => k_asm); (case k3 => k_asm); (case k5 => k_asm); (case k6 => k_is); (case k7 => k_is); (case k8 => ktr_room); (case k9 => first | exact BindsTo.of_eq rfl | exact binds_K (by k_in) rfl (by k_is) rfl rfl rfl); (case c5 => decide); (case kB => exact locs rfl); (case kP => exact Nat.succ_pos _); (case c2 => exact rfl); (case c3 => exact rfl); (case c4 => exact rfl); k_whole; intro L' h' tk htk F' N' B' X' T'; (try dsimp only); (try k_lift B'); (try k_fold))
  have hp2 : s.heap.IsList q vs.toArray := hp
  k_with "state" => (first | exact words_snoc2 (by assumption) (by assumption) (word_lo (by assumption) (by assumption)) | exact words_snoc2 (by assumption) (by assumption) (word_hi (by assumption) (by assumption)))
  k_with "pyIter ref" => (k_state (fun pre words => words.length = pre.length ∧ words = pre.map wordT) "words$"; (try (have hb9 := hn _ kMem)))
  k_steps
  all_goals first
    | exact hret _ _ _ (by assumption) (words_none (by assumption) (by assumption))
    | exact hret _ _ _ (by assumption) (words_some (by assumption) (by assumption))

end Mine
end

/-! ## FlagsA -/
section
open PySem PySem.W PySem.Calls PySem.Spec PyProof.Rows PyProof.Rows.LCg
set_option maxRecDepth 100000
namespace Mine
section
variable {prog : Program} {w : World} {A : Around} {E : Value → Shared → Prop} {s : Shared} {env : Env} {h₀ : Heap}
/-- a loop with an else part, by what holds at each turn: at the end the else part runs, a break passes it by -/
theorem els_loop {R : Result → Shared → Prop} {x : Str} {px : Pos} {body els : List Stmt} {I : Addr} {fp wr : List Addr} {n : Nat} {P : Nat → Value → Prop} {St : Nat → Heap → Prop} {m : Str → Option Value}
    {news : List (Addr × Obj)} (W : Walks prog w A I fp wr n P St) (hx : env.kindOf x = some .local)
    (hp : (env.scope.kind == .class || (env.scope.kind == .module && env.locals != env.globals)) = false)
    (hLf : env.locals ∉ fp) (hwr : ∀ b ∈ wr, h₀.get? b = none) (hnf : ∀ p ∈ news, p.1 ∉ fp)
    (hst : St 0 s.heap) (F : Fr h₀ env.locals s.heap m) (N : News h₀ env.locals s.heap news)
    (J : Nat → (Str → Option Value) → List (Addr × Obj) → Prop) (h0 : J 0 m news)
    (step : ∀ i v m₁ news₁ h tk own, i < n → P i v → news₁.map (·.1) = news.map (·.1) → OwnOff own (news.map (·.1)) → J i m₁ news₁ → Fr h₀ env.locals h (fun y => if y = x then some v else m₁ y) → News h₀ env.locals h (news₁ ++ own) →
      wpAny (model prog w) A (execs body env) (InvPostN h₀ env.locals (J (i + 1)) own (news.map (·.1)) { s with heap := h, toks := tk } fun f s' => R (.ok f) s') (notedBy (model prog w) A env fun e s' => R (.error e) s') { s with heap := h, toks := tk })
    (hR : ∀ h' tk m' news', Fr h₀ env.locals h' m' → News h₀ env.locals h' news' → J n m' news' →
      wpAny (model prog w) A (execs els env) (fun f s' => R (.ok f) s') (notedBy (model prog w) A env fun e s' => R (.error e) s') { s with heap := h', toks := tk }) :
    codeAny (model prog w) A (.forLoop (.Name x px) (.ref I) body els env) R s := by
  have hLw : env.locals ∉ wr := fun h => hLf (W.sub _ h)
  have old : ∀ b o, h₀.get? b = some o → b ∉ wr := fun b o e hb => by rw [hwr b hb] at e; cases e
  have off : ∀ nx : List (Addr × Obj), nx.map (·.1) = news.map (·.1) → ∀ p ∈ nx, p.1 ∉ fp := fun nx ha p hp => by
    have h1 : p.1 ∈ news.map (·.1) := ha ▸ List.mem_map.mpr ⟨p, hp, rfl⟩
    obtain ⟨q, hq, e⟩ := List.mem_map.mp h1
    exact e ▸ hnf q hq
  refine codeAny_forLoop
    (fun k s' => ∃ h' tk m' nx i, s' = { s with heap := h', toks := tk } ∧ St i h' ∧ Fr h₀ env.locals h' m' ∧ News h₀ env.locals h' nx ∧ nx.map (·.1) = news.map (·.1) ∧ J i m' nx ∧ i ≤ n ∧ k = n + 1 - i) ?_ (n + 1)
    ⟨s.heap, s.toks, m, news, 0, rfl, hst, F, N, rfl, h0, Nat.zero_le _, rfl⟩
  rintro k s' ⟨h', tk, m', nx, i, rfl, hst', F', N', ha', hJ, hi, rfl⟩
  have stays : ∀ h₁ : Heap, (∀ b o, b ∉ wr → h'.get? b = some o → h₁.get? b = some o) → Fr h₀ env.locals h₁ m' ∧ News h₀ env.locals h₁ nx := fun h₁ hk₁ =>
    ⟨⟨F'.ns.at' fun o e => hk₁ _ o hLw e, fun b o e => hk₁ b o (old b o e) (F'.keep b o e), F'.above⟩, fun p hp => ⟨hk₁ _ _ (fun hb => off nx ha' p hp (W.sub _ hb)) (N' p hp).1, (N' p hp).2⟩⟩
  by_cases hlt : i < n
  · refine W.item i _ _ _ hlt hst' fun v h₁ tk₁ hP hst₁ hk₁ => ?_
    obtain ⟨F₁, N₁⟩ := stays h₁ hk₁
    refine wpAny_assign_Name (wpAny_storeName_local hx F₁.ns (fun h₂ hn₂ hs₂ => ?_) hp)
    have F₂ := F₁.set hn₂ hs₂
    have hst₂ : St (i + 1) h₂ := W.frame _ _ _ hst₁ fun b hb o e => (hs₂.2 b fun q => hLf (q ▸ hb)).trans e
    have hsep : OwnOff (ownOf h₀ fp h₂) (news.map (·.1)) := by
      intro p hp b hb e
      obtain ⟨q, hq, rfl⟩ := List.mem_map.mp hb
      exact hnf q hq (e ▸ ownOf_sub p hp)
    have keepSt : ∀ (h₃ : Heap) (m₂ : Str → Option Value) (nw : List (Addr × Obj)), Fr h₀ env.locals h₃ m₂ → News h₀ env.locals h₃ nw → (∀ p ∈ ownOf h₀ fp h₂, p ∈ nw) → St (i + 1) h₃ := fun h₃ m₂ nw F₃ N₃ ho => by
      refine W.frame _ _ _ hst₂ fun b hb o e => ?_
      cases hn : h₀.get? b with
      | some o₀ =>
        have : o₀ = o := by have := F₂.keep b o₀ hn; rw [e] at this; exact (Option.some.inj this).symm
        exact this ▸ F₃.keep b o₀ hn
      | none => exact (N₃ _ (ho _ (mem_ownOf hb hn e))).1
    refine wpAny_mono (step i v m' nx h₂ _ (ownOf h₀ fp h₂) hlt hP ha' hsep hJ F₂ ((N₁.set hs₂).append (news_ownOf hLf))) (fun f s₃ h₃ => ?_) fun _ _ e => e
    cases f with
    | ret v => exact h₃
    | brk => exact h₃
    | cont =>
      obtain ⟨h4, tk4, m4, nw4, nx4, rfl, F4, N4, hn4, ho4, ha4, hJ4⟩ := h₃
      exact ⟨n + 1 - (i + 1), by omega, h4, tk4, m4, nx4, i + 1, rfl, keepSt h4 m4 nw4 F4 N4 ho4, F4, fun p hp => N4 p (hn4 p hp), ha4, hJ4, hlt, rfl⟩
    | next =>
      obtain ⟨h4, tk4, m4, nw4, nx4, rfl, F4, N4, hn4, ho4, ha4, hJ4⟩ := h₃
      exact ⟨n + 1 - (i + 1), by omega, h4, tk4, m4, nx4, i + 1, rfl, keepSt h4 m4 nw4 F4 N4 ho4, F4, fun p hp => N4 p (hn4 p hp), ha4, hJ4, hlt, rfl⟩
  · have hin : i = n := by omega
    subst hin
    refine W.done _ _ _ hst' fun h₁ tk₁ hk₁ => ?_
    obtain ⟨F₁, N₁⟩ := stays h₁ hk₁
    exact hR h₁ tk₁ m' nx F₁ N₁ hJ

def ElsAt (prog : Program) (w : World) (A : Around) (h₀ : Heap) (env : Env) (x : Str) (body els : List Stmt) (Q : Flow → Shared → Prop) (E : Value → Shared → Prop) (it : Value) (s₂ : Shared) : Prop :=
  ∃ (I : Addr) (fp wr : List Addr) (n : Nat) (P : Nat → Value → Prop) (St : Nat → Heap → Prop) (m : Str → Option Value) (news : List (Addr × Obj)) (J : Nat → (Str → Option Value) → List (Addr × Obj) → Prop),
    it = .ref I ∧ Walks prog w A I fp wr n P St ∧ env.locals ∉ fp ∧ (∀ b ∈ wr, h₀.get? b = none) ∧ (∀ p ∈ news, p.1 ∉ fp) ∧ St 0 s₂.heap ∧ Fr h₀ env.locals s₂.heap m ∧ News h₀ env.locals s₂.heap news ∧ J 0 m news ∧
    (∀ i v m₁ news₁ h tk own, i < n → P i v → news₁.map (·.1) = news.map (·.1) → OwnOff own (news.map (·.1)) → J i m₁ news₁ → Fr h₀ env.locals h (fun y => if y = x then some v else m₁ y) → News h₀ env.locals h (news₁ ++ own) →
      wpAny (model prog w) A (execs body env) (InvPostN h₀ env.locals (J (i + 1)) own (news.map (·.1)) { s₂ with heap := h, toks := tk } Q) E { s₂ with heap := h, toks := tk }) ∧
    ∀ h' tk m' news', Fr h₀ env.locals h' m' → News h₀ env.locals h' news' → J n m' news' → wpAny (model prog w) A (execs els env) Q E { s₂ with heap := h', toks := tk }
theorem For_els {x : Str} {px pos : Pos} {iter : Expr} {body els : List Stmt} {Q : Flow → Shared → Prop} {m : Str → Option Value} (_F : Fr h₀ env.locals s.heap m) (hx : env.kindOf x = some .local)
    (hp : (env.scope.kind == .class || (env.scope.kind == .module && env.locals != env.globals)) = false)
    (h : wpAny (model prog w) A (eval iter env) (fun xv s₁ => wpAny (model prog w) A (pyIter xv) (fun it s₂ => ElsAt prog w A h₀ env x body els Q E it s₂) E s₁) E s)
    (hs : ∀ x, foldedSetIterable iter env x = pure x := by intro _; rfl)
    (hE : PassesOwn (model prog w) A env E := by passes_own) :
    wpAny (model prog w) A (exec (.For (.Name x px) iter body els pos) env) Q E s := by
  refine wpAny_For (wpAny_mono h (fun xv s₁ h₁ => wpAny_mono h₁ (fun it s₂ h₂ => ?_) fun _ _ e => e) fun _ _ e => e) hs
  obtain ⟨I, fp, wr, n, P, St, m, news, J, rfl, W, hLf, hwr, hnf, hst, F, N, h0, step, hQ⟩ := h₂
  exact els_loop (R := fun r s' => match r with | .ok f => Q f s' | .error e => cameBackBy (model prog w) A env E e s') W hx hp hLf hwr hnf hst F N J h0
    (fun i v m₁ news₁ h tk own a b c d e f g => wpAny_passesOwn hE (wpAny_mono (step i v m₁ news₁ h tk own a b c d e f g) (fun fl _ x => by cases fl <;> exact x) fun _ _ e => e))
    (fun h' tk m' nx a b c => wpAny_passesOwn hE (hQ h' tk m' nx a b c))
end
end Mine
end

/-! ## FlagsB -/
section
open PySem PySem.W PySem.Calls PySem.Spec PyProof.Rows PyProof.Rows.LCg
set_option maxRecDepth 100000
namespace Mine
/-- what is left of the flags before turn i -/
def restF (F i : Nat) : Nat := F / 2 ^ i * 2 ^ i
/-- the words found before turn i -/
def wordsF (F i : Nat) : List Str := ((List.range i).filter fun p => F.testBit p).map fun p => wordT (p : Nat)
abbrev sFlags : Str := Str.ofString "flags"
abbrev sFlag : Str := Str.ofString "flag"
def FInv (D : Addr) (x : Str) (F : Nat) (m₀ : Str → Option Value) (i : Nat) (m' : Str → Option Value) (nx : List (Addr × Obj)) : Prop :=
  ∃ xs ss k t, nx = [(D, listOf xs.toArray k)] ∧ StrsAre xs ss ∧ ss = wordsF F i ∧ (i = 0 ∨ F = 0 ∨ restF F i ≠ 0) ∧ m' sFlags = some (.int (restF F i : Nat) t) ∧ ∀ z, z ≠ x → z ≠ sFlags → z ≠ sFlag → m' z = m₀ z
section
variable {prog : Program} {w : World} {A : Around} {E : Value → Shared → Prop} {s : Shared} {env : Env} {h₀ : Heap} {x : Str} {body els : List Stmt} {Q : Flow → Shared → Prop}
theorem rest_zero (F : Nat) : restF F 0 = F := by simp [restF]
theorem rest_end {F : Nat} (hF : F < 2 ^ 21) : restF F 32 = 0 := by
  unfold restF
  rw [Nat.div_eq_of_lt (by omega)]
theorem flags_loop {F : Nat} {r D : Addr} {t₀ u₀ v₀ tf : Tok} {k₀ : Nat} {m₀ : Str → Option Value} {news : List (Addr × Obj)} (hF : F < 2 ^ 21) 
    (hh : A.handled = none) (hr : IsRange s.heap r 0 32 1 t₀ u₀ v₀) (Fr₀ : Fr h₀ env.locals s.heap m₀) (N : News h₀ env.locals s.heap news) (hm : (D, listOf (#[] : Array Value) k₀) ∈ news) (hk : m₀ sFlags = some (.int (F : Nat) tf))
    (turn : ∀ (i : Nat) xs ss k t t' (u : Str → Option Value) h tk own, i < 32 → StrsAre xs ss → ss = wordsF F i → (i = 0 ∨ F = 0 ∨ restF F i ≠ 0) → xs.length ≤ 32 → OwnOff own [D] →
      Fr h₀ env.locals h (fun y => if y = x then some (.int (i : Nat) t') else kstB (fun z => if [sFlag].contains z then u z else m₀ z) [(sFlags, .int (restF F i : Nat) t)] y) → News h₀ env.locals h ((D, listOf xs.toArray k) :: own) →
      wpAny (model prog w) A (execs body env) (InvPostN h₀ env.locals (FInv D x F m₀ (i + 1)) own [D] { s with heap := h, toks := tk } Q) E { s with heap := h, toks := tk })
    (done : ∀ k t (u : Str → Option Value) h tk, F = 0 →
      Fr h₀ env.locals h (fun y => if y = x then u y else kstB (fun z => if [sFlag].contains z then u z else m₀ z) [(sFlags, .int 0 t)] y) → News h₀ env.locals h [(D, listOf (#[] : Array Value) k)] →
      wpAny (model prog w) A (execs els env) Q E { s with heap := h, toks := tk }) :
    wpAny (model prog w) A (pyIter (.ref r)) (fun it s₂ => ElsAt prog w A h₀ env x body els Q E it s₂) E s := by
  have hsmall : Builtin.Range.small 0 32 1 = true := by decide
  have hn : Builtin.Range.rangeSize 0 32 1 = ((32 : Nat) : Int) := by decide
  refine wpAny_pyIter_range hr hsmall ?_
  have W : Walks prog w A s.heap.objs.size [s.heap.objs.size] [s.heap.objs.size] 32 (fun i v => i < 32 ∧ ∃ t, v = .int (0 + i * 1) t)
      (fun i h => IsRangeIter h s.heap.objs.size (0 + (i : Nat) * 1) ((32 : Nat) - (i : Nat)) 1) := (Walks.range hh _ 0 1 32).bound
  have N' : News h₀ env.locals s.heap [(D, listOf (#[] : Array Value) k₀)] := fun p hp => N p (by rw [List.mem_singleton.mp hp]; exact hm)
  have len : ∀ {xs : List Value} {ss : List Str} {i : Nat}, StrsAre xs ss → ss = wordsF F i → xs.length ≤ i := by
    intro xs ss i h1 h2
    rw [h1.length, h2, wordsF, List.length_map]
    exact Nat.le_trans (List.length_filter_le _ _) (by simp)
  refine ⟨s.heap.objs.size, _, _, 32, _, _, m₀, [(D, listOf (#[] : Array Value) k₀)], FInv D x F m₀, rfl, W, ?_, ?_, ?_, ?_, Fr₀.push _, fun p hp => ⟨Heap.get?_push_of_some _ (N' p hp).1, (N' p hp).2⟩, ?_, ?_, ?_⟩
  · intro hm'
    exact absurd Fr₀.ns.lt ((List.mem_singleton.mp hm') ▸ Nat.lt_irrefl _)
  · intro b hb
    rw [List.mem_singleton.mp hb]
    exact next_is_new Fr₀
  · intro p hp hI
    exact absurd (Heap.lt_size (N' p hp).1) ((List.mem_singleton.mp hI) ▸ Nat.lt_irrefl _)
  · show IsRangeIter _ _ _ _ _
    rw [hn]
    simpa using Heap.get?_push_size _ rfl
  · exact ⟨[], [], k₀, tf, rfl, .nil, rfl, .inl rfl, by rw [rest_zero]; exact hk, fun _ _ _ _ => rfl⟩
  · rintro i v m₁ nx h tk own hi ⟨_, t', rfl⟩ _ hoff ⟨xs, ss, k, t, rfl, h1, h2, h3, h4, h5⟩ F₁ N₁
    have e1 : (0 : Int) + (i : Int) * 1 = ((i : Nat) : Int) := by omega
    rw [e1] at F₁
    refine turn i xs ss k t t' m₁ h tk own hi h1 h2 h3 (Nat.le_trans (len h1 h2) (Nat.le_of_lt hi)) hoff (kst_fr ?_ ?_ F₁) N₁
    · intro p hp
      rw [List.mem_singleton.mp hp]
      exact h4
    · intro z hz hn hs
      refine h5 z hz (hn _ (.head _)) fun e => ?_
      subst e
      revert hs
      decide
  · rintro h' tk m' nx F' N'' ⟨xs, ss, k, t, rfl, h1, h2, h3, h4, h5⟩
    have F0 : F = 0 := by
      rcases h3 with h | h | h
      · omega
      · exact h
      · exact absurd (rest_end hF) h
    rw [rest_end hF] at h4
    have x0 : xs = [] := by
      subst F0
      have : xs.length = 0 := by
        rw [h1.length, h2, wordsF, List.length_map]
        simp
      exact List.length_eq_zero_iff.mp this
    subst x0
    refine done k t m' h' tk F0 (kst_frOut ?_ ?_ F') N''
    · intro p hp
      rw [List.mem_singleton.mp hp]
      exact h4
    · intro z hz hn hs
      refine h5 z hz (hn _ (.head _)) fun e => ?_
      subst e
      revert hs
      decide
theorem flags_end {D : Addr} {F i : Nat} {m₀ m' : Str → Option Value} {own news' : List (Addr × Obj)} {L : Addr} {s₁ : Shared} {h' : Heap} {tk : Nat} (xs : List Value) (ss : List Str) (k : Nat) (t : Tok) (Fr' : Fr h₀ L h' m') (N : News h₀ L h' news')
    (hm : (D, listOf xs.toArray k) ∈ news') (ho : ∀ p ∈ own, p ∈ news') (h1 : StrsAre xs ss) (h2 : ss = wordsF F i) (h3 : i = 0 ∨ F = 0 ∨ restF F i ≠ 0) (h4 : m' sFlags = some (.int (restF F i : Nat) t)) (h5 : ∀ z, z ≠ x → z ≠ sFlags → z ≠ sFlag → m' z = m₀ z) :
    InvEndN h₀ L (FInv D x F m₀ i) own [D] s₁ { s₁ with heap := h', toks := tk } :=
  InvEndN.intro Fr' N ⟨xs, ss, k, t, rfl, h1, h2, h3, h4, h5⟩ rfl (fun p hp => by rw [List.mem_singleton.mp hp]; exact hm) ho
end
theorem rest_bit (F i : Nat) : (restF F i &&& 2 ^ i) = (F.testBit i).toNat * 2 ^ i := by
  have hb : (restF F i).testBit i = F.testBit i := by
    unfold restF
    rw [Nat.testBit_mul_two_pow]
    simp [Nat.testBit_eq_decide_div_mod_eq (x := F)]
  apply Nat.eq_of_testBit_eq
  intro j
  rw [Nat.testBit_and, Nat.testBit_two_pow]
  by_cases hj : i = j
  · subst hj
    rw [hb]
    cases F.testBit i <;> simp [Nat.testBit_two_pow]
  · rw [decide_eq_false hj]
    cases F.testBit i <;> simp [Nat.testBit_two_pow, hj]
theorem rest_next (F i : Nat) : restF F i = restF F (i + 1) + (F.testBit i).toNat * 2 ^ i := by
  unfold restF
  have h1 : F / 2 ^ (i + 1) = F / 2 ^ i / 2 := by rw [Nat.pow_succ, Nat.div_div_eq_div_mul]
  have h2 : (F.testBit i).toNat = F / 2 ^ i % 2 := by rw [Nat.testBit_eq_decide_div_mod_eq]; cases Nat.mod_two_eq_zero_or_one (F / 2 ^ i) with | inl h => simp [h] | inr h => simp [h]
  rw [h1, h2, Nat.pow_succ, Nat.mul_comm (2 ^ i) 2, ← Nat.mul_assoc, ← Nat.add_mul]
  congr 1
  omega
theorem band_eq (F i : Nat) : Builtin.bitAnd (restF F i : Nat) (1 * 2 ^ ((i : Nat) : Int).toNat) = (((F.testBit i).toNat * 2 ^ i : Nat) : Int) := by
  have e : (1 : Int) * 2 ^ ((i : Nat) : Int).toNat = ((2 ^ i : Nat) : Int) := by simp
  rw [e, bitAnd_pp (Int.natCast_nonneg _) (Int.natCast_nonneg _), Int.toNat_natCast, Int.toNat_natCast, rest_bit]
theorem band_no {F i : Nat} (h : Builtin.bitAnd (restF F i : Nat) (1 * 2 ^ ((i : Nat) : Int).toNat) = 0) : F.testBit i = false := by
  rw [band_eq] at h
  cases hb : F.testBit i with
  | false => rfl
  | true =>
    rw [hb] at h
    have : 0 < 2 ^ i := Nat.pos_of_ne_zero (by simp)
    have h2 : (Bool.toNat true * 2 ^ i : Nat) = 0 := by exact_mod_cast h
    simp at h2
theorem band_yes {F i : Nat} (h : Builtin.bitAnd (restF F i : Nat) (1 * 2 ^ ((i : Nat) : Int).toNat) ≠ 0) : F.testBit i = true := by
  cases hb : F.testBit i with
  | true => rfl
  | false =>
    rw [band_eq, hb] at h
    exact absurd (by simp) h
theorem words_no {F i : Nat} (h : F.testBit i = false) : wordsF F i = wordsF F (i + 1) := by
  unfold wordsF
  rw [List.range_succ, List.filter_append]
  simp [h]
theorem words_yes {F i : Nat} (h : F.testBit i = true) : wordsF F (i + 1) = wordsF F i ++ [wordT (i : Nat)] := by
  unfold wordsF
  rw [List.range_succ, List.filter_append]
  simp [h]
theorem rest_no {F i : Nat} (h : F.testBit i = false) : restF F (i + 1) = restF F i := by
  have := rest_next F i
  rw [h] at this
  simpa using this.symm
theorem bxor_eq {F i : Nat} (h : F.testBit i = true) : Builtin.bitXor (restF F i : Nat) (1 * 2 ^ ((i : Nat) : Int).toNat) = ((restF F (i + 1) : Nat) : Int) := by
  have hn := rest_next F i
  rw [h] at hn
  rw [bitXor_and, band_eq, h]
  have e : (1 : Int) * 2 ^ ((i : Nat) : Int).toNat = ((2 ^ i : Nat) : Int) := by simp
  rw [e, hn]
  simp only [Bool.toNat_true, Nat.one_mul]
  push_cast
  omega
theorem hex_size {i : Nat} (h : i < 32) : (baseText "0x" 16 (1 * 2 ^ ((i : Nat) : Int).toNat)).length ≤ sizeLine := by
  have key : ∀ j : Fin 32, (baseText "0x" 16 (1 * 2 ^ ((j.val : Nat) : Int).toNat)).length ≤ 16 := by decide +kernel
  exact Nat.le_trans (key ⟨i, h⟩) (Nat.le_of_ble_eq_true rfl)
theorem bit_lt {F i : Nat} (hF : F < 2 ^ 21) (h : F.testBit i = true) : i < 21 := by
  by_cases hi : i < 21
  · exact hi
  · have := Nat.testBit_lt_two_pow (Nat.lt_of_lt_of_le hF (Nat.pow_le_pow_right (by decide) (Nat.not_lt.mp hi)))
    rw [this] at h
    cases h
end Mine
end

/-! ## FlagsC -/
section
open PySem PySem.W PySem.Calls PySem.Spec PyProof.Rows PyProof.Rows.LCg
set_option maxRecDepth 100000
namespace Mine
theorem push_arr (xs : List Value) (v : Value) : (xs ++ [v]).toArray = xs.toArray.push v := by simp
theorem pow_at {i : Nat} {c : Int} (h : 1 * 2 ^ ((i : Nat) : Int).toNat = c) (j : Nat) (hj : c = ((2 ^ j : Nat) : Int)) : i = j := by
  have e : (1 : Int) * 2 ^ ((i : Nat) : Int).toNat = ((2 ^ i : Nat) : Int) := by simp
  rw [e, hj] at h
  have h2 : 2 ^ i = 2 ^ j := by exact_mod_cast h
  exact (Nat.pow_right_inj (by decide : 1 < 2)).mp h2
theorem fw0 {i : Nat} (h : 1 * 2 ^ ((i : Nat) : Int).toNat = (1 : Int)) : Str.ofString "OPTIMIZED" = wordT (i : Nat) := by rw [pow_at h 0 rfl]; rfl
theorem fw1 {i : Nat} (h : 1 * 2 ^ ((i : Nat) : Int).toNat = (2 : Int)) : Str.ofString "NEWLOCALS" = wordT (i : Nat) := by rw [pow_at h 1 rfl]; rfl
theorem fw2 {i : Nat} (h : 1 * 2 ^ ((i : Nat) : Int).toNat = (4 : Int)) : Str.ofString "VARARGS" = wordT (i : Nat) := by rw [pow_at h 2 rfl]; rfl
theorem fw3 {i : Nat} (h : 1 * 2 ^ ((i : Nat) : Int).toNat = (8 : Int)) : Str.ofString "VARKEYWORDS" = wordT (i : Nat) := by rw [pow_at h 3 rfl]; rfl
theorem fw4 {i : Nat} (h : 1 * 2 ^ ((i : Nat) : Int).toNat = (16 : Int)) : Str.ofString "NESTED" = wordT (i : Nat) := by rw [pow_at h 4 rfl]; rfl
theorem fw5 {i : Nat} (h : 1 * 2 ^ ((i : Nat) : Int).toNat = (32 : Int)) : Str.ofString "GENERATOR" = wordT (i : Nat) := by rw [pow_at h 5 rfl]; rfl
theorem fw6 {i : Nat} (h : 1 * 2 ^ ((i : Nat) : Int).toNat = (64 : Int)) : Str.ofString "NOFREE" = wordT (i : Nat) := by rw [pow_at h 6 rfl]; rfl
theorem fw7 {i : Nat} (h : 1 * 2 ^ ((i : Nat) : Int).toNat = (128 : Int)) : Str.ofString "COROUTINE" = wordT (i : Nat) := by rw [pow_at h 7 rfl]; rfl
theorem fw8 {i : Nat} (h : 1 * 2 ^ ((i : Nat) : Int).toNat = (256 : Int)) : Str.ofString "ITERABLE_COROUTINE" = wordT (i : Nat) := by rw [pow_at h 8 rfl]; rfl
theorem fw9 {i : Nat} (h : 1 * 2 ^ ((i : Nat) : Int).toNat = (512 : Int)) : Str.ofString "ASYNC_GENERATOR" = wordT (i : Nat) := by rw [pow_at h 9 rfl]; rfl
theorem fwh {i : Nat} (hi : i < 21) (h0 : ¬ 1 * 2 ^ ((i : Nat) : Int).toNat = (1 : Int)) (h1 : ¬ 1 * 2 ^ ((i : Nat) : Int).toNat = (2 : Int)) (h2 : ¬ 1 * 2 ^ ((i : Nat) : Int).toNat = (4 : Int)) (h3 : ¬ 1 * 2 ^ ((i : Nat) : Int).toNat = (8 : Int)) (h4 : ¬ 1 * 2 ^ ((i : Nat) : Int).toNat = (16 : Int))
    (h5 : ¬ 1 * 2 ^ ((i : Nat) : Int).toNat = (32 : Int)) (h6 : ¬ 1 * 2 ^ ((i : Nat) : Int).toNat = (64 : Int)) (h7 : ¬ 1 * 2 ^ ((i : Nat) : Int).toNat = (128 : Int)) (h8 : ¬ 1 * 2 ^ ((i : Nat) : Int).toNat = (256 : Int)) (h9 : ¬ 1 * 2 ^ ((i : Nat) : Int).toNat = (512 : Int)) :
    baseText "0x" 16 (1 * 2 ^ ((i : Nat) : Int).toNat) = wordT (i : Nat) := by
  have key : ∀ j : Fin 21, 10 ≤ j.val → baseText "0x" 16 (1 * 2 ^ ((j.val : Nat) : Int).toNat) = wordT (j.val : Nat) := by decide +kernel
  by_cases h : 10 ≤ i
  · exact key ⟨i, hi⟩ h
  · have : i = 0 ∨ i = 1 ∨ i = 2 ∨ i = 3 ∨ i = 4 ∨ i = 5 ∨ i = 6 ∨ i = 7 ∨ i = 8 ∨ i = 9 := by omega
    rcases this with rfl | rfl | rfl | rfl | rfl | rfl | rfl | rfl | rfl | rfl
    · exact absurd rfl h0
    · exact absurd rfl h1
    · exact absurd rfl h2
    · exact absurd rfl h3
    · exact absurd rfl h4
    · exact absurd rfl h5
    · exact absurd rfl h6
    · exact absurd rfl h7
    · exact absurd rfl h8
    · exact absurd rfl h9
theorem rest_no_bit {F i p : Nat} (h : restF F i = 0) (hp : i ≤ p) : F.testBit p = false := by
  unfold restF at h
  have h0 : F / 2 ^ i = 0 := by
    rcases Nat.mul_eq_zero.mp h with h | h
    · exact h
    · exact absurd h (Nat.ne_of_gt (Nat.pos_of_ne_zero (by simp)))
  have hlt : F < 2 ^ i := by
    rcases Nat.div_eq_zero_iff.mp h0 with h | h
    · exact absurd h (Nat.ne_of_gt (Nat.pos_of_ne_zero (by simp)))
    · exact h
  exact Nat.testBit_lt_two_pow (Nat.lt_of_lt_of_le hlt (Nat.pow_le_pow_right (by decide) hp))
theorem words_all {F i : Nat} (h : restF F i = 0) : ∀ j, i ≤ j → wordsF F j = wordsF F i := by
  intro j hj
  induction j with
  | zero => rw [Nat.le_zero.mp hj]
  | succ j ih =>
    by_cases e : i = j + 1
    · rw [e]
    · rw [← words_no (rest_no_bit h (by omega)), ih (by omega)]
theorem cond_no {F i : Nat} (hb : F.testBit i = false) (hc : i = 0 ∨ F = 0 ∨ restF F i ≠ 0) : i + 1 = 0 ∨ F = 0 ∨ restF F (i + 1) ≠ 0 := by
  rw [rest_no hb]
  rcases hc with h | h | h
  · subst h
    by_cases h0 : F = 0
    · exact .inr (.inl h0)
    · exact .inr (.inr (by rw [rest_zero]; exact h0))
  · exact .inr (.inl h)
  · exact .inr (.inr h)
theorem rest_ne {F i : Nat} (hb : F.testBit i = true) (h : Builtin.bitXor (restF F i : Nat) (1 * 2 ^ ((i : Nat) : Int).toNat) ≠ 0) : restF F (i + 1) ≠ 0 := fun e => h (by rw [bxor_eq hb, e]; rfl)
theorem rest_eq {F i : Nat} (hb : F.testBit i = true) (h : Builtin.bitXor (restF F i : Nat) (1 * 2 ^ ((i : Nat) : Int).toNat) = 0) : restF F (i + 1) = 0 := by
  rw [bxor_eq hb] at h
  exact_mod_cast h
section
variable {prog : Program} {w : World} {A : Around} {E : Value → Shared → Prop} {s : Shared} {h₀ : Heap} {L D : Addr} {x : Str} {F i : Nat} {m₀ m' : Str → Option Value} {own : List (Addr × Obj)} {xs : List Value} {ss : List Str} {k : Nat} {t : Tok}
theorem flags_end0 {s₁ : Shared} {h' : Heap} {tk : Nat} (Fr' : Fr h₀ L h' m') (N : News h₀ L h' ((D, listOf xs.toArray k) :: own)) (hs : StrsAre xs ss) (hw : ss = wordsF F i) (hc : i = 0 ∨ F = 0 ∨ restF F i ≠ 0)
    (hb : Builtin.bitAnd (restF F i : Nat) (1 * 2 ^ ((i : Nat) : Int).toNat) = 0) (h4 : m' sFlags = some (.int (restF F i : Nat) t)) (h5 : ∀ z, z ≠ x → z ≠ sFlags → z ≠ sFlag → m' z = m₀ z) :
    InvEndN h₀ L (FInv D x F m₀ (i + 1)) own [D] s₁ { s₁ with heap := h', toks := tk } := by
  have b := band_no hb
  exact flags_end xs ss k t Fr' N (.head _) (fun p hp => .tail _ hp) hs (hw.trans (words_no b)) (cond_no b hc) (by rw [rest_no b]; exact h4) h5
theorem flags_end1 {s₁ : Shared} {h' : Heap} {tk : Nat} {wd : Str} {tw : Tok} (Fr' : Fr h₀ L h' m') (N : News h₀ L h' ((D, listOf (xs.toArray.push (.str wd tw)) k) :: own)) (hs : StrsAre xs ss) (hw : ss = wordsF F i)
    (hb : Builtin.bitAnd (restF F i : Nat) (1 * 2 ^ ((i : Nat) : Int).toNat) ≠ 0) (hwd : F.testBit i = true → wd = wordT (i : Nat)) (hx : Builtin.bitXor (restF F i : Nat) (1 * 2 ^ ((i : Nat) : Int).toNat) ≠ 0)
    (h4 : m' sFlags = some (.int (Builtin.bitXor (restF F i : Nat) (1 * 2 ^ ((i : Nat) : Int).toNat)) t)) (h5 : ∀ z, z ≠ x → z ≠ sFlags → z ≠ sFlag → m' z = m₀ z) :
    InvEndN h₀ L (FInv D x F m₀ (i + 1)) own [D] s₁ { s₁ with heap := h', toks := tk } := by
  have b := band_yes hb
  refine flags_end (xs ++ [.str wd tw]) (ss ++ [wordT (i : Nat)]) k t Fr' N ?_ (fun p hp => .tail _ hp) ?_ (by rw [hw, words_yes b]) (.inr (.inr (rest_ne b hx))) (by rw [← bxor_eq b]; exact h4) h5
  · rw [push_arr]
    exact .head _
  · rw [← hwd b]
    exact strs_snoc' hs
theorem join_break {Q : Value → Shared → Prop} {wd : Str} {tw tj : Tok} {news : List (Addr × Obj)} (N : News h₀ L s.heap news) (hm : (D, listOf (xs.toArray.push (.str wd tw)) k) ∈ news) (hF : F < 2 ^ 21) (hs : StrsAre xs ss) (hw : ss = wordsF F i)
    (hb : Builtin.bitAnd (restF F i : Nat) (1 * 2 ^ ((i : Nat) : Int).toNat) ≠ 0) (hwd : F.testBit i = true → wd = wordT (i : Nat)) (hx : Builtin.bitXor (restF F i : Nat) (1 * 2 ^ ((i : Nat) : Int).toNat) = 0)
    (h : ∀ t k, Q (.str (if F = 0 then Str.ofString "0x0" else Txt.join (Str.ofString ", ") (wordsF F 21)) t) { s with toks := k }) :
    wpAny (model prog w) A (call (.builtin "str.join") [.str (Str.ofString ", ") tj, .ref D]) Q E s := by
  have b := band_yes hb
  have hi := bit_lt hF b
  have F0 : F ≠ 0 := fun e => by rw [e, Nat.zero_testBit] at b; cases b
  have hall : wordsF F 21 = ss ++ [wordT (i : Nat)] := by rw [words_all (rest_eq b hx) 21 (by omega), words_yes b, hw]
  have e0 : (Str.ofString ", ").length = 2 := by decide
  have H1 : s.heap.IsList D (xs ++ [Value.str wd tw]).toArray := ⟨_, N.get hm, rfl, k, by rw [push_arr]⟩
  have hy : StrsAre (xs ++ [Value.str wd tw]) (wordsF F 21) := by
    rw [hall, ← hwd b]
    exact strs_snoc' hs
  have key : ∀ l : List Nat, ((l.map fun p => wordT (p : Nat)).map (·.length)).sum ≤ 18 * l.length := by
    intro l
    induction l with
    | nil => exact Nat.zero_le _
    | cons c r ih =>
      have := wordT_len (c : Nat)
      simp only [List.map_cons, List.sum_cons, List.length_cons, Nat.mul_succ]
      omega
  refine join_list H1 hy ?_ fun t' k => by have q := h t' k; rwa [if_neg F0] at q
  have h1 := key ((List.range 21).filter fun p => F.testBit p)
  have h2 : ((List.range 21).filter fun p => F.testBit p).length ≤ 21 := Nat.le_trans (List.length_filter_le _ _) (by simp)
  rw [e0]
  unfold wordsF
  simp only [List.length_map] at *
  omega
end
end Mine
end

/-! ## CFlags -/
section
open PySem PySem.W PySem.Calls PySem.Spec PyProof.Rows PyProof.Rows.LCg
set_option maxRecDepth 100000
namespace Mine
local macro_rules | `(tactic| walk_at $s:str) => `(tactic| k_extra $s)

set_option maxHeartbeats 8000000 in
theorem c_flags (w : World) (mean : ExcName → Option Value) (mg mb : Str → Option Value) (F : Nat) (t : Tok) (hF : F < 2 ^ 21) :
    Says w mean mg mb 2 56 [.int (F : Nat) t] (fun _ => True) (fun r => ∃ t', r = .str (if F = 0 then Str.ofString "0x0" else Txt.join (Str.ofString ", ") (wordsF F 21)) t') := by
  w_top off
  k_with_none
  k_with "own done_rfl" => (all_goals first | rfl | with_unfolding_all rfl)
  k_with "own f_word" => (first | exact fun _ => fw0 (by with_reducible assumption) | exact fun _ => fw1 (by with_reducible assumption) | exact fun _ => fw2 (by with_reducible assumption) | exact fun _ => fw3 (by with_reducible assumption) | exact fun _ => fw4 (by with_reducible assumption) | exact fun _ => fw5 (by with_reducible assumption) | exact fun _ => fw6 (by with_reducible assumption) | exact fun _ => fw7 (by with_reducible assumption) | exact fun _ => fw8 (by with_reducible assumption) | exact fun _ => fw9 (by with_reducible assumption) | exact fun b9 => fwh (bit_lt (by assumption) b9) (by with_reducible assumption) (by with_reducible assumption) (by with_reducible assumption) (by with_reducible assumption) (by with_reducible assumption) (by with_reducible assumption) (by with_reducible assumption) (by with_reducible assumption) (by with_reducible assumption) (by with_reducible assumption) )
  k_with "call builtin:str.join" => ((k_here; (with_reducible show wpAny _ _ (call (Value.builtin "str.join") [Value.str _ _, Value.ref _]) _ _ _); k_dflt (refine' join_break ?zqN ?zqm ?zqF ?zqs ?zqw ?zqb ?zqd ?zqx ?_; (case zqN => k_asm); (case zqm => exact List.Mem.head _); (case zqF => assumption); (case zqs => assumption); (case zqw => with_reducible assumption); (case zqb => with_reducible assumption); (case zqd => k_extra "own f_word"); (case zqx => with_reducible assumption)); intro _ _))
  k_with "InvEndN" => ((k_here; (with_reducible show InvEndN _ _ (FInv _ _ _ _ _) _ _ _ _); first | (refine' flags_end0 ?zqF ?zqN ?zqs ?zqw ?zqc ?zqb ?zqe ?zqr; (case zqF => k_asm); (case zqN => k_asm); (case zqs => assumption); (case zqw => with_reducible assumption); (case zqc => with_reducible assumption); (case zqb => with_reducible assumption); (case zqe => exact rfl); (case zqr => (intro z z1 z2 z3; simp only [if_neg z1, if_neg z2, if_neg z3, kstB, List.contains_cons, List.contains_nil, Bool.or_false, beq_iff_eq]; k_extra "own done_rfl"))) | (refine' flags_end1 ?zqF ?zqN ?zqs ?zqw ?zqb ?zqd ?zqx ?zqe ?zqr; (case zqF => k_asm); (case zqN => k_asm); (case zqs => assumption); (case zqw => with_reducible assumption); (case zqb => with_reducible assumption); (case zqd => k_extra "own f_word"); (case zqx => with_reducible assumption); (case zqe => exact rfl); (case zqr => (intro z z1 z2 z3; simp only [if_neg z1, if_neg z2, if_neg z3, kstB, List.contains_cons, List.contains_nil, Bool.or_false, beq_iff_eq]; k_extra "own done_rfl")))))
  k_with "exec For" => ((k_here; (with_reducible show wpAny _ _ (exec (Stmt.For (Expr.Name _ _) _ _ (_ :: _) _) _) _ _ _); (rename Fr _ _ _ _ => lF'); (with_unfolding_all refine' For_els lF' ?zqk1 ?zqk2 ?_; (case zqk1 => exact rfl); (case zqk2 => exact rfl); k_whole)))
  k_with "pyIter ref" => ((k_here; (with_reducible show wpAny _ _ (pyIter (Value.ref _)) (fun it s₂ => ElsAt _ _ _ _ _ _ _ _ _ _ it s₂) _ _); k_dflt (refine' flags_loop (by assumption) ?zqh ?zqr ?zqF ?zqN ?zqm ?zqk ?_ ?_; (case zqh => exact rfl); (case zqr => assumption); (case zqF => k_asm); (case zqN => k_asm); (case zqm => k_mem); (case zqk => exact rfl)); (all_goals (try intro i' xs' ss' k' t' t2' u' h' tk' own' hi' hs' hw' hc' hl' hoff' F' N')); (all_goals (try intro k' t' u' h' tk' hz' F' N'))))
  k_with "call builtin:hex" => ((k_here; (with_reducible show wpAny _ _ (call (Value.builtin "hex") [Value.int (1 * 2 ^ _) _]) _ _ _); k_dflt (refine P.hex_of_int ?_ (hex_size (by assumption)))))
  unfold Says
  k_fill
  intro dp un gd cn cs a ccd cl outer A₀ base h₀ L m s Q E B Fr0 X T hk hd hu hp hret
  refine wpAny_call ?_
  (refine' enter0 ?k1 ?k2 ?k3 ?k5 ?kA ?kF ?kK ?k6 ?k7 ?k8 ?k9 ?kB ?kP ?_ ?c5 ?c2 ?c3 ?c4; (case kA => exact rfl); (case kF => exact rfl); (case kK => assumption); (case k1 => k_asm); (case k2 => k_asm); (case k3 => k_asm); (case k5 => k_asm); (case k6 => k_is); (case k7 => k_is); (case k8 => ktr_room); (case k9 => first | exact BindsTo.of_eq rfl | exact binds_K (by k_in) rfl (by k_is) rfl rfl rfl); (case c5 => decide); (case kB => exact locs rfl); (case kP => exact Nat.succ_pos _); (case c2 => exact rfl); (case c3 => exact rfl); (case c4 => exact rfl); k_whole; intro L' h' tk htk F' N' B' X' T'; (try dsimp only); (try k_lift B'); (try k_fold))
  k_steps
  all_goals first
    | exact hret _ _ _ (by assumption) ⟨_, rfl⟩
    | (subst_vars; exact hret _ _ _ (by assumption) ⟨_, rfl⟩)
end Mine
end

/-! ## LawA -/
section
open PySem PySem.W PySem.Calls PySem.Spec PyProof.Rows PyProof.Rows.LCg
set_option maxRecDepth 100000
namespace Mine
/-- what the walk sign by sign writes for the writer k -/
def writtenL (k : Int) (l : List Nat) : List Nat :=
  if k = 0 then (qstate l).1 else if k = 1 then (if l = [] then [112] else [112, 61, 34] ++ l.flatMap (fun c => (heldL c).cps.toList) ++ [34]) else l.flatMap (fun c => (wrapL k c).cps.toList)
/-- what _law_may says -/
def mayL (a b : Int) (l : List Nat) : Bool := if a = 0 then may0L b l else if a = 1 then (decide (b < 4) || S l == Str.ofString "") else (l.filter (dif a b)).isEmpty
theorem c_written (w : World) (mean : ExcName → Option Value) (mg mb : Str → Option Value) (k : Int) (l : List Nat) (t1 t2 : Tok) (hk0 : 0 ≤ k) (hk1 : k ≤ 6) (hx : l.length ≤ 100) :
    Says w mean mg mb 2 137 [.int k t1, .str (S l) t2] (fun _ => True) (fun r => ∃ t', r = .str (S (writtenL k l)) t') := by
  by_cases h0 : k = 0
  · have := c_written0 w mean mg mb k l t1 t2 h0 hx
    unfold writtenL; rwa [if_pos h0]
  · by_cases h1 : k = 1
    · have := c_written1 w mean mg mb k l t1 t2 h1 hx
      unfold writtenL; rwa [if_neg h0, if_pos h1]
    · have := c_written2 w mean mg mb k l t1 t2 (by omega) hk1 hx
      unfold writtenL; rwa [if_neg h0, if_neg h1]
theorem c_may (w : World) (mean : ExcName → Option Value) (mg mb : Str → Option Value) (a b : Int) (l : List Nat) (t1 t2 t3 : Tok) (h0 : 0 ≤ a) (h1 : a < b) (h2 : b ≤ 6) (hx : l.length ≤ 100) :
    Says w mean mg mb 2 142 [.int a t1, .int b t2, .str (S l) t3] (fun _ => True) (fun r => r = .bool (mayL a b l)) := by
  by_cases ha : a = 0
  · have := c_may0 w mean mg mb a b l t1 t2 t3 ha (by omega) h2 hx
    unfold mayL; rwa [if_pos ha]
  · by_cases hb : a = 1
    · have := c_may1 w mean mg mb a b l t1 t2 t3 hb (by omega) h2 hx
      unfold mayL; rwa [if_neg ha, if_pos hb]
    · have := c_may2 w mean mg mb a b l t1 t2 t3 (by omega) (by omega) (by omega) h2 hx
      unfold mayL; rwa [if_neg ha, if_neg hb]
theorem flat_signs : ∀ l : List Nat, (l.flatMap fun c => (S [c]).cps.toList) = l
  | [] => rfl
  | a :: r => by rw [List.flatMap_cons, flat_signs r]; rfl
/-- the text of the run, for the tactics -/
structure TextIs (l : List Nat) : Prop where
def SignEl (news : List (Addr × Obj)) (y : Value) (news' : List (Addr × Obj)) : Prop := news' = news ∧ ∃ c t, y = .str (S [c]) t
def TextEl (news : List (Addr × Obj)) (r : Str) (y : Value) (news' : List (Addr × Obj)) : Prop := news' = news ∧ ∃ t, y = .str r t
section
variable {prog : Program} {w : World} {A : Around} {h₀ : Heap} {L : Addr} {m : Str → Option Value} {env : Env} {elt : Expr} {x : Str} {scope : Scope} {cl : List (Str × Addr)} {s : Shared} {S₀ : List (Addr × Obj) → Prop} {P : Nat → Value → Prop} {Fin : List Value → List (Addr × Obj) → Prop} {news : List (Addr × Obj)}
theorem rest_signs {vs : List Value} {ns : List Int} (hi : IntsAre vs ns)
    (turn : ∀ k t I oI C oC D m₂ ys h tk (E' : Value → Shared → Prop), NsObj oC m₂ → m₂ x = some (.int k t) → Fr h₀ L h m → News h₀ L h ((I, oI) :: (C, oC) :: (D, lst ys) :: news) → Off3 I C D news → ((@Ne Nat I C) ∧ (@Ne Nat I D) ∧ (@Ne Nat C D)) →
      wpAny (model prog w) A (eval elt (compEnvC scope cl C env)) (CompEnd h₀ L m { s with heap := h, toks := tk } I oI C oC D (lst ys) S₀ (fun y news' => SignEl news y news')) E' { s with heap := h, toks := tk })
    (fin : ∀ ys (l : List Nat), StrsAre ys (l.map fun c => S [c]) → l.length = ns.length → Fin ys news) : CompRest prog w A h₀ L m env elt x scope cl s S₀ (fun i v => vs.toArray[i]? = some v) Fin vs.toArray.size 0 [] news := by
  have key : ∀ (j i : Nat) (ys : List Value) (l : List Nat), i + j = vs.length → l.length = i → StrsAre ys (l.map fun c => S [c]) → CompRest prog w A h₀ L m env elt x scope cl s S₀ (fun i v => vs.toArray[i]? = some v) Fin j i ys news := by
    intro j
    induction j with
    | zero =>
      intro i ys l hij hl hy
      exact CompRest.zero (fin ys l hy (by rw [hl, ← hi.length]; omega))
    | succ j ih =>
      intro i ys l hij hl hy
      refine CompRest.succ fun v I oI C oC D m₂ h tk E' hv hC hx F N off ne => ?_
      obtain ⟨k, t, hv', hk⟩ := IntsAre.at hi i v (by simpa using hv)
      rw [hv'] at hx
      refine wpAny_mono (turn k t I oI C oC D m₂ ys h tk E' hC hx F N off ne) (fun y s₂ hq => ?_) fun _ _ e => e
      obtain ⟨h', tk', nw, e, F', N', off', hS, hn, c, t', hy'⟩ := hq
      rw [hn] at N' off' hS
      refine ⟨h', tk', news, e, F', N', off', hS, ?_⟩
      rw [hy']
      refine ih (i + 1) _ (l ++ [c]) (by omega) (by simp [hl]) ?_
      simpa using strs_snoc' hy
  simpa using key vs.length 0 [] [] (by omega) rfl .nil
theorem rest_kinds {n : Nat} (g : Int → Str)
    (turn : ∀ k t I oI C oC D m₂ ys h tk (E' : Value → Shared → Prop), 0 ≤ k → k < (n : Int) → NsObj oC m₂ → m₂ x = some (.int k t) → Fr h₀ L h m → News h₀ L h ((I, oI) :: (C, oC) :: (D, lst ys) :: news) → Off3 I C D news → ((@Ne Nat I C) ∧ (@Ne Nat I D) ∧ (@Ne Nat C D)) →
      wpAny (model prog w) A (eval elt (compEnvC scope cl C env)) (CompEnd h₀ L m { s with heap := h, toks := tk } I oI C oC D (lst ys) S₀ (fun y news' => TextEl news (g k) y news')) E' { s with heap := h, toks := tk })
    (fin : ∀ ys, StrsAre ys ((rangeKs 0 n).map g) → Fin ys news) : CompRest prog w A h₀ L m env elt x scope cl s S₀ (fun i v => ∃ t, v = .int (0 + (i : Int)) t) Fin n 0 [] news := by
  have key : ∀ (j i : Nat) (ys : List Value), i + j = n → StrsAre ys (((rangeKs 0 n).take i).map g) → CompRest prog w A h₀ L m env elt x scope cl s S₀ (fun i v => ∃ t, v = .int (0 + (i : Int)) t) Fin j i ys news := by
    intro j
    induction j with
    | zero =>
      intro i ys hij hy
      rw [List.take_of_length_le (by rw [rangeKs_length]; omega)] at hy
      exact CompRest.zero (fin ys hy)
    | succ j ih =>
      intro i ys hij hy
      refine CompRest.succ fun v I oI C oC D m₂ h tk E' hv hC hx F N off ne => ?_
      obtain ⟨t, hv'⟩ := hv
      rw [hv'] at hx
      refine wpAny_mono (turn (0 + (i : Int)) t I oI C oC D m₂ ys h tk E' (by omega) (by omega) hC hx F N off ne) (fun y s₂ hq => ?_) fun _ _ e => e
      obtain ⟨h', tk', nw, e, F', N', off', hS, hn, t', hy'⟩ := hq
      rw [hn] at N' off' hS
      refine ⟨h', tk', news, e, F', N', off', hS, ?_⟩
      rw [hy']
      refine ih (i + 1) _ (by omega) ?_
      have hk : (rangeKs 0 n)[i]? = some (0 + (i : Int)) := by
        have hin : i < n := by omega
        simp [rangeKs, hin]
      rw [List.take_add_one, hk]
      simpa using strs_snoc' hy
  exact key n 0 [] (by omega) (by simp only [List.take_zero, List.map_nil]; exact .nil)
theorem join_signs {E : Value → Shared → Prop} {D : Addr} {ys : List Value} {l : List Nat} {t : Tok} {Q : Value → Shared → Prop} (N : News h₀ L s.heap news) (hy : StrsAre ys (l.map fun c => S [c])) (hm : (D, lst ys) ∈ news) (hl : l.length ≤ 10)
    (h : ∀ t k, TextIs l → l.length ≤ 10 → Q (.str (S l) t) { s with toks := k }) : wpAny (model prog w) A (call (.builtin "str.join") [.str (Str.ofString "") t, .ref D]) Q E s := by
  refine join_map N hy hm (fun c => by exact Nat.le_of_ble_eq_true rfl) (by omega) fun t k _ => ?_
  have e := flat_signs l
  rw [e]
  exact h t k ⟨⟩ hl
theorem rest_hand {l : List Nat} {n : Nat} (_ : TextIs l) (turn : ∀ k t I oI C oC D m₂ ys h tk (E' : Value → Shared → Prop), 0 ≤ k → k < (n : Int) → NsObj oC m₂ → m₂ x = some (.int k t) → Fr h₀ L h m → News h₀ L h ((I, oI) :: (C, oC) :: (D, lst ys) :: news) → Off3 I C D news → ((@Ne Nat I C) ∧ (@Ne Nat I D) ∧ (@Ne Nat C D)) →
      wpAny (model prog w) A (eval elt (compEnvC scope cl C env)) (CompEnd h₀ L m { s with heap := h, toks := tk } I oI C oC D (lst ys) S₀ (fun y news' => TextEl news (S (handL k l)) y news')) E' { s with heap := h, toks := tk })
    (fin : ∀ ys, StrsAre ys ((rangeKs 0 n).map fun k => S (handL k l)) → Fin ys news) : CompRest prog w A h₀ L m env elt x scope cl s S₀ (fun i v => ∃ t, v = .int (0 + (i : Int)) t) Fin n 0 [] news := rest_kinds (fun k => S (handL k l)) turn fin
theorem rest_written {l : List Nat} {n : Nat} (_ : TextIs l) (turn : ∀ k t I oI C oC D m₂ ys h tk (E' : Value → Shared → Prop), 0 ≤ k → k < (n : Int) → NsObj oC m₂ → m₂ x = some (.int k t) → Fr h₀ L h m → News h₀ L h ((I, oI) :: (C, oC) :: (D, lst ys) :: news) → Off3 I C D news → ((@Ne Nat I C) ∧ (@Ne Nat I D) ∧ (@Ne Nat C D)) →
      wpAny (model prog w) A (eval elt (compEnvC scope cl C env)) (CompEnd h₀ L m { s with heap := h, toks := tk } I oI C oC D (lst ys) S₀ (fun y news' => TextEl news (S (writtenL k l)) y news')) E' { s with heap := h, toks := tk })
    (fin : ∀ ys, StrsAre ys ((rangeKs 0 n).map fun k => S (writtenL k l)) → Fin ys news) : CompRest prog w A h₀ L m env elt x scope cl s S₀ (fun i v => ∃ t, v = .int (0 + (i : Int)) t) Fin n 0 [] news := rest_kinds (fun k => S (writtenL k l)) turn fin
end
end Mine
end

/-! ## PlainA -/
section
open PySem PySem.W PySem.Calls PySem.Spec PyProof.Rows PyProof.Rows.LCg
set_option maxRecDepth 100000
namespace Mine
/-- what the escape k writes of a sign -/
def esc (k : Int) (c : Nat) : List Nat := (wrapL k c).cps.toList
/-- a sign that some escape names -/
def Named (c : Nat) : Prop := c = 38 ∨ c = 60 ∨ c = 62 ∨ c = 34 ∨ c = 13 ∨ c = 10 ∨ c = 9
theorem sub1_cons (c : Nat) (r : List Nat) (a : Nat) (l : List Nat) : sub1 c r (a :: l) = sub1 c r [a] ++ sub1 c r l := by
  have := sub1_append c r [a] l
  simpa using this
theorem sub1_other {c a : Nat} (r : List Nat) (h : a ≠ c) : sub1 c r [a] = [a] := sub1_free c r [a] (by simp; exact fun e => h e.symm)
theorem sub1_nil (c : Nat) (r : List Nat) : sub1 c r [] = [] := rfl
theorem spell_other {k : Int} {c : Nat} (h : ¬ Named c) : spellL k c = S [] := by
  have h2 : ∀ n, (n = 38 ∨ n = 60 ∨ n = 62 ∨ n = 34 ∨ n = 13 ∨ n = 10 ∨ n = 9) → (c == n) = false := by
    intro n hn
    refine beq_eq_false_iff_ne.mpr fun e => h (e ▸ hn)
  unfold spellL spellT
  split
  · simp [List.lookup, h2]
  · split
    · simp [List.lookup, h2]
    · split
      · simp [List.lookup, h2]
      · split <;> simp [List.lookup, h2]
theorem esc_other {k : Int} {c : Nat} (h : ¬ Named c) : esc k c = [c] := by
  unfold esc wrapL
  rw [if_pos (spell_other h)]
theorem esc_hom (k : Int) (E : List Nat → List Nat) (h0 : E [] = []) (h1 : ∀ a l, E (a :: l) = E [a] ++ E l) (h2 : ∀ c, E [c] = esc k c) : ∀ l, E l = l.flatMap (esc k)
  | [] => h0
  | a :: l => by rw [h1, h2, esc_hom k E h0 h1 h2 l, List.flatMap_cons]
theorem named_cases {P : Nat → Prop} (h : P 38 ∧ P 60 ∧ P 62 ∧ P 34 ∧ P 13 ∧ P 10 ∧ P 9) (h2 : ∀ c, ¬ Named c → P c) (c : Nat) : P c := by
  by_cases hc : Named c
  · obtain ⟨a1, a2, a3, a4, a5, a6, a7⟩ := h
    rcases hc with rfl | rfl | rfl | rfl | rfl | rfl | rfl <;> assumption
  · exact h2 c hc
theorem E_flat2 (l : List Nat) : E2 l = l.flatMap (esc 2) := by
  refine esc_hom 2 E2 rfl (fun a l => ?_) (named_cases (by decide) fun c hc => ?_) l
  · unfold E2; rw [sub1_cons 38, sub1_append, sub1_append]
  · rw [esc_other hc]
    unfold Named at hc
    unfold E2
    rw [sub1_other _ (by omega), sub1_other _ (by omega), sub1_other _ (by omega)]
theorem E_flat3 (l : List Nat) : E3 l = l.flatMap (esc 3) := by
  refine esc_hom 3 E3 rfl (fun a l => ?_) (named_cases (by decide) fun c hc => ?_) l
  · unfold E3 E2; rw [sub1_cons 38, sub1_append, sub1_append, sub1_append]
  · rw [esc_other hc]
    unfold Named at hc
    unfold E3 E2
    rw [sub1_other _ (by omega), sub1_other _ (by omega), sub1_other _ (by omega), sub1_other _ (by omega)]
theorem E_flat4 (l : List Nat) : E4 l = l.flatMap (esc 4) := by
  refine esc_hom 4 E4 rfl (fun a l => ?_) (named_cases (by decide) fun c hc => ?_) l
  · unfold E4; rw [sub1_cons 38, sub1_append, sub1_append]
  · rw [esc_other hc]
    unfold Named at hc
    unfold E4
    rw [sub1_other _ (by omega), sub1_other _ (by omega), sub1_other _ (by omega)]
theorem E_flat5 (l : List Nat) : E5 l = l.flatMap (esc 5) := by
  refine esc_hom 5 E5 rfl (fun a l => ?_) (named_cases (by decide) fun c hc => ?_) l
  · unfold E5 E2; rw [sub1_cons 38, sub1_append, sub1_append, sub1_append, sub1_append, sub1_append, sub1_append]
  · rw [esc_other hc]
    unfold Named at hc
    unfold E5 E2
    rw [sub1_other _ (by omega), sub1_other _ (by omega), sub1_other _ (by omega), sub1_other _ (by omega), sub1_other _ (by omega), sub1_other _ (by omega), sub1_other _ (by omega)]
theorem E_flat6 (l : List Nat) : E6 l = l.flatMap (esc 6) := by
  refine esc_hom 6 E6 rfl (fun a l => ?_) (named_cases (by decide) fun c hc => ?_) l
  · unfold E6; rw [sub1_cons 38, sub1_append, sub1_append, sub1_append, sub1_append, sub1_append]
  · rw [esc_other hc]
    unfold Named at hc
    unfold E6
    rw [sub1_other _ (by omega), sub1_other _ (by omega), sub1_other _ (by omega), sub1_other _ (by omega), sub1_other _ (by omega), sub1_other _ (by omega)]
theorem hand_esc {k : Int} (h0 : 2 ≤ k) (h1 : k ≤ 6) (l : List Nat) : handL k l = l.flatMap (esc k) := by
  have : k = 2 ∨ k = 3 ∨ k = 4 ∨ k = 5 ∨ k = 6 := by omega
  rcases this with rfl | rfl | rfl | rfl | rfl
  · rw [handL2, E_flat2]
  · rw [handL3, E_flat3]
  · rw [handL4, E_flat4]
  · rw [handL5, E_flat5]
  · rw [handL6, E_flat6]
/-- what _formatparam writes of a sign between the marks -/
def held (c : Nat) : List Nat := (heldL c).cps.toList
theorem held_other {c : Nat} (h : ¬ (c = 92 ∨ c = 34)) : held c = [c] := by unfold held heldL; rw [if_neg h]
theorem P_flat : ∀ l : List Nat, sub1 34 [92, 34] (sub1 92 [92, 92] l) = l.flatMap held
  | [] => rfl
  | a :: l => by
    rw [sub1_cons 92, sub1_append, P_flat l, List.flatMap_cons]
    congr 1
    by_cases h : a = 92 ∨ a = 34
    · rcases h with rfl | rfl <;> decide
    · rw [held_other h, sub1_other _ (by omega), sub1_other _ (by omega)]
theorem paramL_eq (l : List Nat) : paramL l = if l = [] then [112] else [112, 61, 34] ++ l.flatMap held ++ [34] := by
  unfold paramL; rw [P_flat]
def restN (b : Bool) (l : List Nat) : List Nat := if b = true ∧ l.head? = some 10 then l.tail else l
theorem norm_ret (r : List Nat) : normL (13 :: r) = 13 :: 10 :: normL (restN true r) := by
  cases r with
  | nil => rfl
  | cons d r =>
    by_cases h : d = 10
    · subst h; rw [normL_crlf]; rfl
    · rw [normL_cr d r h]
      have : restN true (d :: r) = d :: r := by unfold restN; rw [if_neg (by simp [h])]
      rw [this]
theorem quote_walk : ∀ (l o : List Nat) (f b : Bool), (l.foldl qstep (o, f, b)).1 = o ++ dotsL f (normL (restN b l))
  | [], o, f, b => by
    have : restN b [] = [] := by unfold restN; split <;> rfl
    rw [this]; simp [normL, dotsL]
  | n :: r, o, f, b => by
    rw [List.foldl_cons]
    by_cases h : b = true ∧ n = 10
    · have e : qstep (o, f, b) n = (o, f, false) := by unfold qstep; rw [if_pos h]
      rw [e, quote_walk r o f false]
      have e1 : restN false r = r := by unfold restN; rw [if_neg (by simp)]
      have e2 : restN b (n :: r) = r := by unfold restN; rw [if_pos ⟨h.1, by rw [h.2]; rfl⟩]; rfl
      rw [e1, e2]
    · have e : qstep (o, f, b) n = (o ++ (if f = true ∧ n = 46 then [46, 46] else if n = 13 ∨ n = 10 then [13, 10] else [n]), decide (n = 13 ∨ n = 10), decide (n = 13)) := by unfold qstep; rw [if_neg h]
      have e2 : restN b (n :: r) = n :: r := by
        unfold restN; rw [if_neg (fun q => h ⟨q.1, by simpa using q.2⟩)]
      rw [e, quote_walk r, e2, List.append_assoc]
      congr 1
      by_cases h13 : n = 13
      · subst h13
        rw [norm_ret, dotsL_cons, dotsL_cons]
        simp
      · by_cases h10 : n = 10
        · subst h10
          have e1 : restN (decide ((10 : Nat) = 13)) r = r := by unfold restN; rw [if_neg (by simp)]
          rw [normL_lf, dotsL_cons, dotsL_cons, e1]
          simp
        · have e1 : restN (decide (n = 13)) r = r := by unfold restN; rw [if_neg (by simp [h13])]
          rw [normL_plain n r (by omega), dotsL_cons, e1]
          simp [h13, h10]
theorem quote_eq (l : List Nat) : quoteL l = (qstate l).1 := by
  unfold quoteL qstate
  rw [quote_walk]
  have : restN false l = l := by unfold restN; rw [if_neg (by simp)]
  rw [this]; rfl
theorem hand_written (k : Int) (l : List Nat) (h0 : 0 ≤ k) (h1 : k ≤ 6) : handL k l = writtenL k l := by
  by_cases k0 : k = 0
  · subst k0
    rw [handL0, quote_eq]; rfl
  · by_cases k1 : k = 1
    · subst k1
      rw [handL1, paramL_eq]; rfl
    · rw [hand_esc (by omega) h1]
      unfold writtenL
      rw [if_neg k0, if_neg k1]
      rfl
end Mine
end

/-! ## PlainB -/
section
open PySem PySem.W PySem.Calls PySem.Spec PyProof.Rows PyProof.Rows.LCg
set_option maxRecDepth 100000
namespace Mine
/-- two lists part at some place of both -/
def mism : List Nat → List Nat → Bool
  | a :: x, b :: y => (a != b) || mism x y
  | _, _ => false
theorem mism_ne : ∀ (x y s t : List Nat), mism x y = true → x ++ s ≠ y ++ t
  | [], _, _, _, h => by simp [mism] at h
  | _ :: _, [], _, _, h => by simp [mism] at h
  | a :: x, b :: y, s, t, h => by
    intro e
    simp only [List.cons_append, List.cons.injEq] at e
    unfold mism at h
    rw [e.1] at h
    simp at h
    exact mism_ne x y s t h e.2
theorem flat_ne {F G : Nat → List Nat} {d : Nat → Bool} (h1 : ∀ c, d c = false → F c = G c) (h2 : ∀ c, d c = true → mism (F c) (G c) = true) : ∀ l : List Nat, (l.flatMap F = l.flatMap G) ↔ (l.filter d).isEmpty = true
  | [] => by simp
  | c :: l => by
    rw [List.flatMap_cons, List.flatMap_cons]
    cases hd : d c with
    | false =>
      rw [h1 c hd, List.append_cancel_left_eq, flat_ne h1 h2 l]
      simp [hd]
    | true =>
      constructor
      · intro e
        exact absurd e (mism_ne _ _ _ _ (h2 c hd))
      · intro e
        simp [hd] at e
def both (a b : Int) (c : Nat) : List Nat := (esc b c).flatMap (esc a)
theorem both_other {a b : Int} {c : Nat} (h : ¬ Named c) : both a b c = [c] := by
  unfold both
  rw [esc_other h, List.flatMap_cons, esc_other h]; rfl
theorem dif_other {a b : Int} {c : Nat} (h : ¬ Named c) : dif a b c = false := by
  unfold dif
  rw [spell_other h, spell_other h]
  simp
theorem esc_esc {a b : Int} (h : ∀ c, c = 38 ∨ c = 60 ∨ c = 62 ∨ c = 34 ∨ c = 13 ∨ c = 10 ∨ c = 9 → if dif a b c then mism (both a b c) (both b a c) = true else both a b c = both b a c) (l : List Nat) :
    ((l.flatMap (esc b)).flatMap (esc a) = (l.flatMap (esc a)).flatMap (esc b)) ↔ (l.filter (dif a b)).isEmpty = true := by
  rw [List.flatMap_assoc, List.flatMap_assoc]
  refine flat_ne (F := both a b) (G := both b a) (fun c hc => ?_) (fun c hc => ?_) l
  · by_cases hn : Named c
    · have := h c hn
      rw [hc] at this
      simpa using this
    · rw [both_other hn, both_other hn]
  · by_cases hn : Named c
    · have := h c hn
      rw [hc] at this
      simpa using this
    · rw [dif_other hn] at hc; cases hc
theorem esc_pairs {a b : Int} (h0 : 2 ≤ a) (h1 : a < b) (h2 : b ≤ 6) : ∀ c, c = 38 ∨ c = 60 ∨ c = 62 ∨ c = 34 ∨ c = 13 ∨ c = 10 ∨ c = 9 → if dif a b c then mism (both a b c) (both b a c) = true else both a b c = both b a c := by
  have ha : a = 2 ∨ a = 3 ∨ a = 4 ∨ a = 5 := by omega
  have hb : b = 3 ∨ b = 4 ∨ b = 5 ∨ b = 6 := by omega
  rcases ha with rfl | rfl | rfl | rfl <;> rcases hb with rfl | rfl | rfl | rfl <;> first | (exfalso; omega) | (rintro c (rfl | rfl | rfl | rfl | rfl | rfl | rfl) <;> decide)
theorem law_esc {a b : Int} (h0 : 2 ≤ a) (h1 : a < b) (h2 : b ≤ 6) (l : List Nat) : handL a (handL b l) = handL b (handL a l) ↔ mayL a b l = true := by
  rw [hand_esc (k := b) (by omega) h2, hand_esc (k := a) h0 (by omega), hand_esc h0 (by omega), hand_esc (by omega) h2, esc_esc (esc_pairs h0 h1 h2)]
  unfold mayL
  rw [if_neg (by omega), if_neg (by omega)]
/-! _formatparam with the escapes -/
theorem esc_ne (k : Int) (c : Nat) : esc k c ≠ [] := by
  unfold esc wrapL
  split <;> simp
theorem flat_nil {g : Nat → List Nat} (hg : ∀ c, g c ≠ []) {l : List Nat} : l.flatMap g = [] ↔ l = [] := by
  cases l with
  | nil => simp
  | cons a r => simp [hg a]
theorem param_low {b : Int} (h0 : 2 ≤ b) (h1 : b ≤ 3) : ∀ c, (held c).flatMap (esc b) = (esc b c).flatMap held := by
  have hb : b = 2 ∨ b = 3 := by omega
  have key : ∀ c, ¬ Named c → (held c).flatMap (esc b) = (esc b c).flatMap held := by
    intro c hc
    rw [esc_other hc]
    by_cases h : c = 92 ∨ c = 34
    · rcases h with rfl | rfl
      · rcases hb with rfl | rfl <;> decide
      · exact absurd (.inr (.inr (.inr (.inl rfl)))) hc
    · rw [held_other h]
      simp [held_other h, esc_other hc]
  exact named_cases (P := fun c => (held c).flatMap (esc b) = (esc b c).flatMap held) (by rcases hb with rfl | rfl <;> decide) key
theorem flat_congr {F G : Nat → List Nat} : ∀ {l : List Nat}, (∀ c ∈ l, F c = G c) → l.flatMap F = l.flatMap G
  | [], _ => rfl
  | a :: r, h => by rw [List.flatMap_cons, List.flatMap_cons, h a (.head _), flat_congr fun c hc => h c (.tail _ hc)]
theorem law_param_low {b : Int} (h0 : 2 ≤ b) (h1 : b ≤ 3) (l : List Nat) : paramL (l.flatMap (esc b)) = (paramL l).flatMap (esc b) := by
  rw [paramL_eq, paramL_eq]
  have hb : b = 2 ∨ b = 3 := by omega
  by_cases hl : l = []
  · subst hl
    rcases hb with rfl | rfl <;> decide
  · rw [if_neg hl, if_neg (fun e => hl ((flat_nil (esc_ne b)).mp e))]
    rw [List.flatMap_append, List.flatMap_append, List.flatMap_assoc, List.flatMap_assoc]
    have e1 : [112, 61, 34].flatMap (esc b) = [112, 61, 34] := by rcases hb with rfl | rfl <;> decide
    have e2 : [34].flatMap (esc b) = [34] := by rcases hb with rfl | rfl <;> decide
    rw [e1, e2]
    congr 2
    exact flat_congr fun c _ => (param_low h0 h1 c).symm
theorem law_param_high {b : Int} (h0 : 4 ≤ b) (h1 : b ≤ 6) (l : List Nat) : paramL (l.flatMap (esc b)) = (paramL l).flatMap (esc b) ↔ l = [] := by
  rw [paramL_eq, paramL_eq]
  have hb : b = 4 ∨ b = 5 ∨ b = 6 := by omega
  by_cases hl : l = []
  · subst hl
    rcases hb with rfl | rfl | rfl <;> decide
  · rw [if_neg hl, if_neg (fun e => hl ((flat_nil (esc_ne b)).mp e))]
    rw [List.flatMap_append, List.flatMap_append]
    constructor
    · intro e
      exfalso
      rw [List.append_assoc, List.append_assoc] at e
      have e1 : mism [112, 61, 34] ([112, 61, 34].flatMap (esc b)) = true := by rcases hb with rfl | rfl | rfl <;> decide
      exact mism_ne _ _ _ _ e1 e
    · intro e; exact absurd e hl
theorem law_param {b : Int} (h0 : 2 ≤ b) (h1 : b ≤ 6) (l : List Nat) : handL 1 (handL b l) = handL b (handL 1 l) ↔ mayL 1 b l = true := by
  rw [hand_esc h0 h1, hand_esc h0 h1, handL1, handL1]
  unfold mayL
  rw [if_neg (by decide), if_pos rfl]
  by_cases hb : b < 4
  · rw [law_param_low h0 (by omega)]
    simp [hb]
  · rw [law_param_high (by omega) h1]
    have e0 : Str.ofString "" = S [] := by decide
    rw [e0]
    constructor
    · intro e; subst e; simp
    · intro e
      simp only [hb, decide_false, Bool.false_or] at e
      have := eq_of_beq e
      have h2 := congrArg (fun z : Str => z.cps.toList) this
      simpa using h2
end Mine
end

/-! ## PlainC -/
section
open PySem PySem.W PySem.Calls PySem.Spec PyProof.Rows PyProof.Rows.LCg
set_option maxRecDepth 100000
namespace Mine
/-- signs become lists that keep line ends and dots apart -/
structure Calm (g : Nat → List Nat) : Prop where
  lf : g 10 = [10]
  cr : g 13 = [13]
  dot : g 46 = [46]
  ne : ∀ c, g c ≠ []
  no : ∀ c, c ≠ 10 → c ≠ 13 → c ≠ 46 → 10 ∉ g c ∧ 13 ∉ g c ∧ 46 ∉ g c
theorem norm_plain_app : ∀ (y z : List Nat), 10 ∉ y → 13 ∉ y → normL (y ++ z) = y ++ normL z
  | [], _, _, _ => rfl
  | c :: y, z, h1, h2 => by
    have a1 : c ≠ 10 := fun e => h1 (e ▸ .head _)
    have a2 : c ≠ 13 := fun e => h2 (e ▸ .head _)
    rw [List.cons_append, normL_plain c _ (by omega), norm_plain_app y z (fun q => h1 (.tail _ q)) (fun q => h2 (.tail _ q)), List.cons_append]
theorem norm_free (l : List Nat) (h1 : 10 ∉ l) (h2 : 13 ∉ l) : normL l = l := by
  have := norm_plain_app l [] h1 h2
  simpa [normL] using this
theorem dots_plain_app : ∀ (b : Bool) (y z : List Nat), y ≠ [] → 10 ∉ y → 46 ∉ y → dotsL b (y ++ z) = y ++ dotsL false z
  | _, [], _, h, _, _ => absurd rfl h
  | b, [c], z, _, h1, h2 => by
    have a1 : c ≠ 10 := fun e => h1 (e ▸ .head _)
    have a2 : c ≠ 46 := fun e => h2 (e ▸ .head _)
    rw [List.cons_append, List.nil_append, dotsL_cons, if_neg (by simp [a2]), decide_eq_false a1]
  | b, c :: d :: y, z, _, h1, h2 => by
    have a1 : c ≠ 10 := fun e => h1 (e ▸ .head _)
    have a2 : c ≠ 46 := fun e => h2 (e ▸ .head _)
    rw [List.cons_append, dotsL_cons, if_neg (by simp [a2]), decide_eq_false a1, dots_plain_app false (d :: y) z (by simp) (fun q => h1 (.tail _ q)) (fun q => h2 (.tail _ q))]; rfl
theorem rest_flat {g : Nat → List Nat} (hg : Calm g) (r : List Nat) : restN true (r.flatMap g) = (restN true r).flatMap g := by
  cases r with
  | nil => rfl
  | cons d r =>
    by_cases h : d = 10
    · subst h
      rw [List.flatMap_cons, hg.lf]; rfl
    · have e : restN true (d :: r) = d :: r := by unfold restN; rw [if_neg (by simp [h])]
      rw [e]
      unfold restN
      rw [if_neg]
      rintro ⟨_, h2⟩
      rw [List.flatMap_cons] at h2
      have hm : 10 ∈ g d := by
        cases hd : g d with
        | nil => exact absurd hd (hg.ne d)
        | cons a t =>
          rw [hd] at h2
          have : a = 10 := by simpa using h2
          rw [this]; exact .head _
      by_cases h13 : d = 13
      · subst h13; rw [hg.cr] at hm; simp at hm
      · by_cases h46 : d = 46
        · subst h46; rw [hg.dot] at hm; simp at hm
        · exact (hg.no d h h13 h46).1 hm
theorem rest_len (b : Bool) (r : List Nat) : (restN b r).length ≤ r.length := by
  unfold restN
  split
  · rw [List.length_tail]; omega
  · exact Nat.le_refl _
theorem norm_flat {g : Nat → List Nat} (hg : Calm g) : ∀ (n : Nat) (l : List Nat), l.length ≤ n → normL (l.flatMap g) = (normL l).flatMap g
  | _, [], _ => rfl
  | 0, _ :: _, h => by simp at h
  | n + 1, c :: r, h => by
    have hr : r.length ≤ n := by simpa using h
    rw [List.flatMap_cons]
    by_cases h13 : c = 13
    · subst h13
      rw [hg.cr, List.cons_append, List.nil_append, norm_ret, norm_ret, rest_flat hg, norm_flat hg n _ (Nat.le_trans (rest_len _ _) hr), List.flatMap_cons, List.flatMap_cons, hg.cr, hg.lf]; rfl
    · by_cases h10 : c = 10
      · subst h10
        rw [hg.lf, List.cons_append, List.nil_append, normL_lf, normL_lf, norm_flat hg n r hr, List.flatMap_cons, List.flatMap_cons, hg.cr, hg.lf]; rfl
      · have hno : 10 ∉ g c ∧ 13 ∉ g c := by
          by_cases h46 : c = 46
          · subst h46; rw [hg.dot]; simp
          · exact ⟨(hg.no c h10 h13 h46).1, (hg.no c h10 h13 h46).2.1⟩
        rw [norm_plain_app _ _ hno.1 hno.2, norm_flat hg n r hr, normL_plain c r (by omega), List.flatMap_cons]
theorem dots_flat {g : Nat → List Nat} (hg : Calm g) : ∀ (b : Bool) (l : List Nat), dotsL b (l.flatMap g) = (dotsL b l).flatMap g
  | _, [] => rfl
  | b, c :: r => by
    rw [List.flatMap_cons, dotsL_cons, List.flatMap_append, ← dots_flat hg _ r]
    by_cases h46 : c = 46
    · subst h46
      rw [hg.dot, List.cons_append, List.nil_append, dotsL_cons]
      congr 1
      cases b <;> simp [hg.dot]
    · rw [if_neg (by simp [h46])]
      by_cases h10 : c = 10
      · subst h10
        rw [hg.lf, List.cons_append, List.nil_append, dotsL_cons, if_neg (by simp)]
        simp [hg.lf]
      · rw [decide_eq_false h10]
        have hno : 10 ∉ g c ∧ 46 ∉ g c := by
          by_cases h13 : c = 13
          · subst h13; rw [hg.cr]; simp
          · exact ⟨(hg.no c h10 h13 h46).1, (hg.no c h10 h13 h46).2.2⟩
        rw [dots_plain_app b _ _ (hg.ne c) hno.1 hno.2]
        simp
theorem quote_flat {g : Nat → List Nat} (hg : Calm g) (l : List Nat) : quoteL (l.flatMap g) = (quoteL l).flatMap g := by
  unfold quoteL
  rw [norm_flat hg _ l (Nat.le_refl _), dots_flat hg]
theorem calm_held : Calm held := by
  refine ⟨by decide, by decide, by decide, fun c => ?_, fun c h1 h2 h3 => ?_⟩
  · by_cases h : c = 92 ∨ c = 34
    · rcases h with rfl | rfl <;> decide
    · rw [held_other h]; simp
  · by_cases h : c = 92 ∨ c = 34
    · rcases h with rfl | rfl <;> decide
    · rw [held_other h]
      simp only [List.mem_singleton]
      omega
theorem calm_esc {b : Int} (hb : b = 2 ∨ b = 4) : Calm (esc b) := by
  refine ⟨by rcases hb with rfl | rfl <;> decide, by rcases hb with rfl | rfl <;> decide, by rcases hb with rfl | rfl <;> decide, esc_ne b, ?_⟩
  refine named_cases (P := fun c => c ≠ 10 → c ≠ 13 → c ≠ 46 → 10 ∉ esc b c ∧ 13 ∉ esc b c ∧ 46 ∉ esc b c) (by rcases hb with rfl | rfl <;> refine ⟨?_, ?_, ?_, ?_, ?_, ?_, ?_⟩ <;> decide) fun c hc h1 h2 h3 => ?_
  rw [esc_other hc]
  simp only [List.mem_singleton]
  omega
theorem mem_dots (x : Nat) : ∀ (b : Bool) (l : List Nat), x ∈ dotsL b l ↔ x ∈ l
  | _, [] => Iff.rfl
  | b, c :: r => by
    rw [dotsL_cons, List.mem_append, mem_dots x _ r, List.mem_cons]
    by_cases h : b = true ∧ c = 46
    · rw [if_pos h, h.2]; simp
    · rw [if_neg h, List.mem_singleton]
theorem mem_norm (x : Nat) (hx : x = 10 ∨ x = 13) : ∀ (n : Nat) (l : List Nat), l.length ≤ n → (x ∈ normL l ↔ (10 ∈ l ∨ 13 ∈ l))
  | _, [], _ => by simp [normL]
  | 0, _ :: _, h => by simp at h
  | n + 1, c :: r, h => by
    have hr : r.length ≤ n := by simpa using h
    by_cases h13 : c = 13
    · subst h13
      rw [norm_ret]
      rcases hx with rfl | rfl <;> simp
    · by_cases h10 : c = 10
      · subst h10
        rw [normL_lf]
        rcases hx with rfl | rfl <;> simp
      · rw [normL_plain c r (by omega), List.mem_cons, mem_norm x hx n r hr]
        have e : x ≠ c := by rcases hx with rfl | rfl <;> omega
        simp only [List.mem_cons]
        constructor
        · rintro (q | q)
          · exact absurd q e
          · rcases q with q | q
            · exact .inl (.inr q)
            · exact .inr (.inr q)
        · rintro ((q | q) | (q | q))
          · exact absurd q.symm h10
          · exact .inr (.inl q)
          · exact absurd q.symm h13
          · exact .inr (.inr q)
theorem mem_quote (x : Nat) (hx : x = 10 ∨ x = 13) (l : List Nat) : x ∈ quoteL l ↔ (10 ∈ l ∨ 13 ∈ l) := by
  unfold quoteL; rw [mem_dots, mem_norm x hx _ l (Nat.le_refl _)]
theorem esc3_no13 : ∀ c, 13 ∉ esc 3 c :=
  named_cases (by decide) fun c hc => by
    rw [esc_other hc]
    intro h
    rw [List.mem_singleton] at h
    exact hc (.inr (.inr (.inr (.inr (.inl h.symm)))))
theorem esc3_10 : ∀ c, (10 ∈ esc 3 c ↔ c = 10) :=
  named_cases (by decide) fun c hc => by
    rw [esc_other hc, List.mem_singleton]
    exact ⟨fun h => h.symm, fun h => h.symm⟩
theorem E3_no13 (l : List Nat) : 13 ∉ l.flatMap (esc 3) := by
  intro h
  obtain ⟨c, _, hc⟩ := List.mem_flatMap.mp h
  exact esc3_no13 c hc
theorem E3_10 (l : List Nat) : 10 ∈ l.flatMap (esc 3) ↔ 10 ∈ l := by
  constructor
  · intro h
    obtain ⟨c, hm, hc⟩ := List.mem_flatMap.mp h
    rw [(esc3_10 c).mp hc] at hm
    exact hm
  · intro h
    exact List.mem_flatMap.mpr ⟨10, h, (esc3_10 10).mpr rfl⟩
theorem esc3_esc2 : ∀ c, c ≠ 13 → esc 3 c = esc 2 c :=
  named_cases (by decide) fun c hc _ => by rw [esc_other hc, esc_other hc]
theorem law_quote3 (l : List Nat) : quoteL (l.flatMap (esc 3)) = (quoteL l).flatMap (esc 3) ↔ (13 ∉ l ∧ 10 ∉ l) := by
  constructor
  · intro e
    have n10 : 10 ∉ l := by
      intro h
      have : 13 ∈ quoteL (l.flatMap (esc 3)) := (mem_quote 13 (.inr rfl) _).mpr (.inl ((E3_10 l).mpr h))
      rw [e] at this
      exact E3_no13 _ this
    refine ⟨fun h => ?_, n10⟩
    have h1 : 10 ∈ (quoteL l).flatMap (esc 3) := (E3_10 _).mpr ((mem_quote 10 (.inl rfl) l).mpr (.inr h))
    rw [← e, mem_quote 10 (.inl rfl)] at h1
    rcases h1 with h1 | h1
    · exact n10 ((E3_10 l).mp h1)
    · exact E3_no13 l h1
  · rintro ⟨h13, h10⟩
    have e1 : l.flatMap (esc 3) = l.flatMap (esc 2) := flat_congr fun c hc => esc3_esc2 c fun q => h13 (q ▸ hc)
    have e2 : (quoteL l).flatMap (esc 3) = (quoteL l).flatMap (esc 2) := flat_congr fun c hc => esc3_esc2 c fun q => by
      rw [q, mem_quote 13 (.inr rfl)] at hc
      rcases hc with q | q
      · exact h10 q
      · exact h13 q
    rw [e1, e2, quote_flat (calm_esc (.inl rfl))]
end Mine
end

/-! ## PlainD -/
section
open PySem PySem.W PySem.Calls PySem.Spec PyProof.Rows PyProof.Rows.LCg
set_option maxRecDepth 100000
namespace Mine
/-! quotedata with _formatparam -/
theorem rest_snoc {c : Nat} (h : c ≠ 10) (r : List Nat) : restN true (r ++ [c]) = restN true r ++ [c] := by
  cases r with
  | nil =>
    unfold restN
    simp [h]
  | cons d r =>
    unfold restN
    by_cases hd : d = 10 <;> simp [hd]
theorem norm_snoc {c : Nat} (h1 : c ≠ 10) (h2 : c ≠ 13) : ∀ (n : Nat) (l : List Nat), l.length ≤ n → normL (l ++ [c]) = normL l ++ [c]
  | _, [], _ => by rw [List.nil_append, normL_plain c [] (by omega)]; rfl
  | 0, _ :: _, h => by simp at h
  | n + 1, d :: r, h => by
    have hr : r.length ≤ n := by simpa using h
    rw [List.cons_append]
    by_cases h13 : d = 13
    · subst h13
      rw [norm_ret, norm_ret, rest_snoc h1, norm_snoc h1 h2 n _ (Nat.le_trans (rest_len _ _) hr)]; rfl
    · by_cases h10 : d = 10
      · subst h10
        rw [normL_lf, normL_lf, norm_snoc h1 h2 n r hr]; rfl
      · rw [normL_plain d _ (by omega), normL_plain d r (by omega), norm_snoc h1 h2 n r hr]; rfl
theorem dots_snoc {c : Nat} (h : c ≠ 46) : ∀ (b : Bool) (l : List Nat), dotsL b (l ++ [c]) = dotsL b l ++ [c]
  | b, [] => by
    rw [List.nil_append, dotsL_cons, if_neg (by simp [h])]
    simp [dotsL]
  | b, d :: r => by rw [List.cons_append, dotsL_cons, dotsL_cons, dots_snoc h _ r, List.append_assoc]
/-- the dot that is doubled at the text's start -/
def lead (l : List Nat) : List Nat := if l.head? = some 46 then [46] else []
theorem dots_lead (l : List Nat) : dotsL true l = lead l ++ dotsL false l := by
  cases l with
  | nil => rfl
  | cons c r =>
    rw [dotsL_cons, dotsL_cons]
    unfold lead
    by_cases h : c = 46 <;> simp [h]
theorem lead_norm (l : List Nat) : lead (normL l) = lead l := by
  cases l with
  | nil => rfl
  | cons c r =>
    by_cases h13 : c = 13
    · subst h13; rw [norm_ret]; rfl
    · by_cases h10 : c = 10
      · subst h10; rw [normL_lf]; rfl
      · rw [normL_plain c r (by omega)]; rfl
theorem quote_lead (l : List Nat) : quoteL l = lead l ++ dotsL false (normL l) := by
  unfold quoteL; rw [dots_lead, lead_norm]
theorem quote_nil : quoteL [] = [] := rfl
theorem quote_ne {l : List Nat} (h : l ≠ []) : quoteL l ≠ [] := by
  intro e
  cases l with
  | nil => exact h rfl
  | cons c r =>
    have h1 : normL (c :: r) ≠ [] := by
      by_cases h13 : c = 13
      · subst h13; rw [norm_ret]; simp
      · by_cases h10 : c = 10
        · subst h10; rw [normL_lf]; simp
        · rw [normL_plain c r (by omega)]; simp
    cases hn : normL (c :: r) with
    | nil => exact h1 hn
    | cons a t =>
      unfold quoteL at e
      rw [hn, dotsL_cons] at e
      split at e <;> simp at e
theorem quote_param (l : List Nat) (hl : l ≠ []) : quoteL (paramL l) = [112, 61, 34] ++ (dotsL false (normL l)).flatMap held ++ [34] := by
  rw [paramL_eq, if_neg hl]
  unfold quoteL
  rw [List.append_assoc, norm_plain_app [112, 61, 34] _ (by decide) (by decide), norm_snoc (by decide) (by decide) _ _ (Nat.le_refl _), dots_plain_app true [112, 61, 34] _ (by decide) (by decide) (by decide), dots_snoc (by decide), norm_flat calm_held _ l (Nat.le_refl _), dots_flat calm_held, List.append_assoc]
theorem law_quote_param (l : List Nat) : quoteL (paramL l) = paramL (quoteL l) ↔ l.head? ≠ some 46 := by
  by_cases hl : l = []
  · subst hl
    rw [quote_nil]
    decide
  · rw [quote_param l hl, paramL_eq (quoteL l), if_neg (quote_ne hl), List.append_cancel_right_eq, List.append_cancel_left_eq, quote_lead, List.flatMap_append]
    constructor
    · intro e h
      have := congrArg List.length e
      have hh : held 46 = [46] := calm_held.dot
      unfold lead at this
      rw [if_pos h, List.flatMap_cons, hh] at this
      simp only [List.length_append, List.flatMap_nil, List.length_cons, List.length_nil] at this
      omega
    · intro h
      unfold lead
      rw [if_neg h]; rfl
theorem slice_one (l : List Nat) : (Txt.slice (S l) none (some 1) != Str.ofString ".") = !decide (l.head? = some 46) := by
  cases l with
  | nil => decide
  | cons c r =>
    have e : Txt.slice (S (c :: r)) none (some 1) = S [c] := by
      have := StrLaws.sliceText_to (x := S (c :: r)) (j := 1) ⟨by decide, by simp; omega⟩
      refine Eq.trans (show Txt.slice (S (c :: r)) none (some 1) = StrLaws.sliceText (S (c :: r)) none (some 1) from rfl) ?_
      simpa using this
    have e2 : Str.ofString "." = S [46] := by decide
    rw [e, e2]
    by_cases h : c = 46
    · subst h; simp
    · have hne : S [c] ≠ S [46] := fun q => h (by simpa using congrArg (fun z : Str => z.cps.toList) q)
      simp [h, hne]
/-! quotedata with the escapes that write line ends too -/
def stripL : List Nat → List Nat
  | [] => []
  | c :: r => match r with
    | d :: r' => if c = 13 ∧ d = 10 then stripL r' else c :: stripL (d :: r')
    | [] => [c]
theorem strip_pair (r : List Nat) : stripL (13 :: 10 :: r) = stripL r := by
  conv => lhs; unfold stripL
  simp
theorem strip_skip (c : Nat) (r : List Nat) (h : ¬ (c = 13 ∧ r.head? = some 10)) : stripL (c :: r) = c :: stripL r := by
  cases r with
  | nil => rfl
  | cons d r =>
    conv => lhs; unfold stripL
    dsimp only
    rw [if_neg (fun q : c = 13 ∧ d = 10 => h ⟨q.1, by rw [q.2]; rfl⟩)]
def lone (l : List Nat) : Bool := decide (13 ∈ stripL l ∨ 10 ∈ stripL l)
def dpair : Bool → List Nat → Bool
  | _, [] => false
  | b, c :: r => (b && c == 46) || dpair (decide (c = 10)) r
section
variable {g : Nat → List Nat}
theorem g_pos (hg : ∀ c, g c ≠ []) (c : Nat) : 0 < (g c).length := List.length_pos_iff.mpr (hg c)
theorem norm_size (hg : ∀ c, g c ≠ []) : ∀ (n : Nat) (l : List Nat), l.length ≤ n → if lone l then (l.flatMap g).length < ((normL l).flatMap g).length else normL l = l
  | _, [], _ => by simp [lone, stripL, normL]
  | 0, _ :: _, h => by simp at h
  | n + 1, c :: r, h => by
    have hr : r.length ≤ n := by simpa using h
    have p13 := g_pos hg 13
    have p10 := g_pos hg 10
    by_cases h13 : c = 13
    · subst h13
      rw [norm_ret]
      by_cases hd : r.head? = some 10
      · cases r with
        | nil => simp at hd
        | cons d r =>
          have hd' : d = 10 := by simpa using hd
          subst hd'
          have e : restN true (10 :: r) = r := rfl
          have el : lone (13 :: 10 :: r) = lone r := by unfold lone; rw [strip_pair]
          have ih := norm_size hg n r (by simp at hr; omega)
          rw [e, el]
          split
          · rename_i hl
            rw [if_pos hl] at ih
            simp only [List.flatMap_cons, List.length_append]
            omega
          · rename_i hl
            rw [if_neg hl] at ih
            rw [ih]
      · have e : restN true r = r := by unfold restN; rw [if_neg (fun q => hd q.2)]
        have el : lone (13 :: r) = true := by
          unfold lone
          rw [strip_skip 13 r (fun q => hd q.2)]
          simp
        have ih := norm_size hg n r hr
        rw [e, el, if_pos rfl]
        simp only [List.flatMap_cons, List.length_append]
        split at ih
        · omega
        · rw [ih]; omega
    · have hs : stripL (c :: r) = c :: stripL r := strip_skip c r (fun q => h13 q.1)
      have ih := norm_size hg n r hr
      by_cases h10 : c = 10
      · subst h10
        have el : lone (10 :: r) = true := by unfold lone; rw [hs]; simp
        rw [normL_lf, el, if_pos rfl]
        simp only [List.flatMap_cons, List.length_append]
        split at ih
        · omega
        · rw [ih]; omega
      · have el : lone (c :: r) = lone r := by
          unfold lone
          rw [hs]
          have e1 : ¬ (13 = c) := fun q => h13 q.symm
          have e2 : ¬ (10 = c) := fun q => h10 q.symm
          simp [e1, e2]
        rw [normL_plain c r (by omega), el]
        split
        · rename_i hl
          rw [if_pos hl] at ih
          simp only [List.flatMap_cons, List.length_append]
          omega
        · rename_i hl
          rw [if_neg hl] at ih
          rw [ih]
theorem dots_size (hg : ∀ c, g c ≠ []) : ∀ (b : Bool) (l : List Nat), if dpair b l then (l.flatMap g).length < ((dotsL b l).flatMap g).length else dotsL b l = l
  | b, [] => by simp [dpair, dotsL]
  | b, c :: r => by
    have ih := dots_size hg (decide (c = 10)) r
    have p46 := g_pos hg 46
    rw [dotsL_cons, List.flatMap_append, List.flatMap_cons]
    simp only [List.length_append]
    by_cases h : b = true ∧ c = 46
    · rw [if_pos h]
      have e : dpair b (c :: r) = true := by unfold dpair; simp [h.1, h.2]
      rw [e, if_pos rfl, h.2]
      simp only [List.flatMap_cons, List.flatMap_nil, List.length_append, List.append_nil]
      rw [h.2] at ih
      split at ih
      · omega
      · rw [ih]; omega
    · rw [if_neg h]
      have e : dpair b (c :: r) = dpair (decide (c = 10)) r := by
        conv => lhs; unfold dpair
        have : (b && c == 46) = false := by
          cases b with
          | false => rfl
          | true => simpa using h
        rw [this, Bool.false_or]
      rw [e]
      simp only [List.flatMap_cons, List.flatMap_nil, List.append_nil]
      split
      · rename_i hl
        rw [if_pos hl] at ih
        omega
      · rename_i hl
        rw [if_neg hl] at ih
        rw [ih]; rfl
theorem size_law (hg : ∀ c, g c ≠ []) (l : List Nat) : l.flatMap g = (dotsL false (normL l)).flatMap g ↔ (lone l = false ∧ dpair false l = false) := by
  have h1 := norm_size hg _ l (Nat.le_refl _)
  have h2 := dots_size hg false (normL l)
  constructor
  · intro e
    have el := congrArg List.length e
    have n1 : lone l = false := by
      cases hl : lone l with
      | false => rfl
      | true =>
        rw [hl, if_pos rfl] at h1
        split at h2
        · omega
        · rw [h2] at el; omega
    rw [n1, if_neg (by simp)] at h1
    rw [h1] at h2 el
    refine ⟨n1, ?_⟩
    cases hd : dpair false l with
    | false => rfl
    | true =>
      rw [hd, if_pos rfl] at h2
      omega
  · rintro ⟨n1, n2⟩
    rw [n1, if_neg (by simp)] at h1
    rw [h1, n2, if_neg (by simp)] at h2
    rw [h1, h2]
end
theorem esc_no {b : Int} (hb : b = 5 ∨ b = 6) : ∀ c, 10 ∉ esc b c ∧ 13 ∉ esc b c := by
  refine named_cases (P := fun c => 10 ∉ esc b c ∧ 13 ∉ esc b c) (by rcases hb with rfl | rfl <;> refine ⟨?_, ?_, ?_, ?_, ?_, ?_, ?_⟩ <;> decide) fun c hc => ?_
  rw [esc_other hc]
  simp only [List.mem_singleton]
  unfold Named at hc
  omega
theorem esc_head {b : Int} (hb : b = 5 ∨ b = 6) : ∀ c, ((esc b c).head? = some 46 ↔ c = 46) := by
  refine named_cases (P := fun c => ((esc b c).head? = some 46 ↔ c = 46)) (by rcases hb with rfl | rfl <;> refine ⟨?_, ?_, ?_, ?_, ?_, ?_, ?_⟩ <;> decide) fun c hc => ?_
  rw [esc_other hc]
  simp
theorem lead_esc {b : Int} (hb : b = 5 ∨ b = 6) (l : List Nat) : lead (l.flatMap (esc b)) = lead l := by
  cases l with
  | nil => rfl
  | cons c r =>
    unfold lead
    have h := esc_head hb c
    rw [List.flatMap_cons]
    cases hd : esc b c with
    | nil => exact absurd hd (esc_ne b c)
    | cons a t =>
      rw [hd] at h
      simp only [List.head?_cons, Option.some.injEq, List.cons_append] at h ⊢
      by_cases ha : a = 46
      · rw [if_pos ha, if_pos (h.mp ha)]
      · rw [if_neg ha, if_neg (fun q => ha (h.mpr q))]
theorem dots_free : ∀ (l : List Nat), 10 ∉ l → dotsL false l = l
  | [], _ => rfl
  | c :: r, h => by
    have h1 : c ≠ 10 := fun e => h (e ▸ .head _)
    rw [dotsL_cons, if_neg (by simp), decide_eq_false h1, dots_free r fun q => h (.tail _ q)]; rfl
theorem law_quote56 {b : Int} (hb : b = 5 ∨ b = 6) (l : List Nat) : quoteL (l.flatMap (esc b)) = (quoteL l).flatMap (esc b) ↔ (lone l = false ∧ dpair false l = false) := by
  have h10 : 10 ∉ l.flatMap (esc b) := fun h => by
    obtain ⟨c, _, hc⟩ := List.mem_flatMap.mp h
    exact (esc_no hb c).1 hc
  have h13 : 13 ∉ l.flatMap (esc b) := fun h => by
    obtain ⟨c, _, hc⟩ := List.mem_flatMap.mp h
    exact (esc_no hb c).2 hc
  have e46 : esc b 46 = [46] := esc_other (by unfold Named; omega)
  have el : (lead l).flatMap (esc b) = lead l := by
    unfold lead
    split
    · rw [List.flatMap_cons, e46]; rfl
    · rfl
  rw [quote_lead, quote_lead, norm_free _ h10 h13, dots_free _ h10, lead_esc hb, List.flatMap_append, el, List.append_cancel_left_eq, size_law (esc_ne b)]
end Mine
end

/-! ## PlainE -/
section
open PySem PySem.W PySem.Calls PySem.Spec PyProof.Rows PyProof.Rows.LCg
open PySem.Builtin.Str (occurrences subAt strSub)
set_option maxRecDepth 100000
namespace Mine
theorem has_cr (l : List Nat) : has (S l) (Str.ofString "\r") = decide (13 ∈ l) := by
  have e : Str.ofString "\r" = ⟨#[13]⟩ := by decide
  rw [e]
  exact StrLaws.found_one (S l) 13
theorem has_lf (l : List Nat) : has (S l) (Str.ofString "\n") = decide (10 ∈ l) := by
  have e : Str.ofString "\n" = ⟨#[10]⟩ := by decide
  rw [e]
  exact StrLaws.found_one (S l) 10
theorem take_two {x : List Nat} {a b : Nat} : x.take 2 = [a, b] ↔ ∃ r, x = a :: b :: r := by
  constructor
  · intro h
    cases x with
    | nil => simp at h
    | cons c x =>
      cases x with
      | nil => simp at h
      | cons d x =>
        simp at h
        exact ⟨x, by rw [h.1, h.2]⟩
  · rintro ⟨r, rfl⟩; rfl
theorem at_two (l : List Nat) (a b i : Nat) : (i + (⟨#[a, b]⟩ : Str).length ≤ (S l).length ∧ subAt (S l) ⟨#[a, b]⟩ i = true) ↔ ∃ r, l.drop i = a :: b :: r := by
  rw [StrLaws.subAt_eq, beq_iff_eq]
  show (i + 2 ≤ (S l).length ∧ (l.drop i).take 2 = [a, b]) ↔ _
  rw [take_two]
  constructor
  · exact fun h => h.2
  · intro h
    refine ⟨?_, h⟩
    obtain ⟨r, hr⟩ := h
    have := congrArg List.length hr
    simp only [List.length_drop, List.length_cons] at this
    show i + 2 ≤ l.toArray.size
    rw [List.size_toArray]
    omega
theorem dpair_iff : ∀ (b : Bool) (l : List Nat), dpair b l = true ↔ ((b = true ∧ l.head? = some 46) ∨ ∃ i r, l.drop i = 10 :: 46 :: r)
  | b, [] => by simp [dpair]
  | b, c :: t => by
    unfold dpair
    rw [Bool.or_eq_true, dpair_iff _ t]
    constructor
    · rintro (h | ⟨h1, h2⟩ | ⟨i, r, h⟩)
      · rw [Bool.and_eq_true, beq_iff_eq] at h
        exact .inl ⟨h.1, by rw [h.2]; rfl⟩
      · right
        cases t with
        | nil => simp at h2
        | cons d t =>
          refine ⟨0, t, ?_⟩
          have : c = 10 := of_decide_eq_true h1
          have : d = 46 := by simpa using h2
          subst_vars
          rfl
      · exact .inr ⟨i + 1, r, h⟩
    · rintro (⟨h1, h2⟩ | ⟨i, r, h⟩)
      · left
        rw [h1]
        simpa using h2
      · right
        cases i with
        | zero =>
          simp at h
          left
          refine ⟨decide_eq_true h.1, ?_⟩
          rw [h.2]; rfl
        | succ i => exact .inr ⟨i, r, h⟩
theorem has_pair (l : List Nat) : has (S l) (Str.ofString "\n.") = dpair false l := by
  have e : Str.ofString "\n." = ⟨#[10, 46]⟩ := by decide
  rw [e, Bool.eq_iff_iff, dpair_iff]
  unfold has
  rw [StrLaws.found_iff]
  constructor
  · rintro ⟨i, h⟩
    obtain ⟨r, hr⟩ := (at_two l 10 46 i).mp h
    exact .inr ⟨i, r, hr⟩
  · rintro (⟨h, _⟩ | ⟨i, r, hr⟩)
    · cases h
    · exact ⟨i, (at_two l 10 46 i).mpr ⟨r, hr⟩⟩
theorem strip_run : ∀ (n : Nat) (l : List Nat), (∀ k, k < n → ¬ ∃ r, l.drop k = 13 :: 10 :: r) → stripL l = l.take n ++ stripL (l.drop n)
  | 0, _, _ => rfl
  | n + 1, [], _ => rfl
  | n + 1, c :: r, h => by
    have h0 : ¬ (c = 13 ∧ r.head? = some 10) := by
      rintro ⟨h1, h2⟩
      cases r with
      | nil => simp at h2
      | cons d t =>
        have : d = 10 := by simpa using h2
        exact h 0 (Nat.succ_pos _) ⟨t, by rw [h1, this]; rfl⟩
    rw [strip_skip c r h0, strip_run n r fun k hk => h (k + 1) (by omega)]
    rfl
theorem strip_none (l : List Nat) (h : ∀ k, ¬ ∃ r, l.drop k = 13 :: 10 :: r) : stripL l = l := by
  rw [strip_run l.length l fun k _ => h k, List.take_length, List.drop_length]
  simp [stripL]
theorem join_cat : ∀ ps : List Str, (Str.join (Str.ofString "") ps).cps.toList = ps.flatMap fun p => p.cps.toList
  | [] => rfl
  | [p] => by simp [Str.join]
  | p :: q :: r => by
    show (p ++ Str.ofString "" ++ Str.join (Str.ofString "") (q :: r)).cps.toList = _
    have e : (Str.ofString "").cps.toList = [] := by decide
    rw [Str.cps_append, Str.cps_append, Array.toList_append, Array.toList_append, join_cat (q :: r), e, List.append_nil]
    rfl
theorem strip_chain (l : List Nat) : ∀ (cuts : List Nat) (a f : Nat), StrLaws.ChainG (S l) ⟨#[13, 10]⟩ (S l).length a cuts f → (∀ k, f ≤ k → ¬ StrLaws.At (S l) ⟨#[13, 10]⟩ (S l).length k) →
    (StrLaws.partsFrom (S l) 2 a cuts).flatMap (fun p => p.cps.toList) = stripL (l.drop a)
  | [], a, f, h, hn => by
    have e : f = a := h
    subst e
    show (strSub (S l) f (S l).length).cps.toList ++ [] = _
    rw [List.append_nil, StrLaws.strSub_toList]
    have hl : (S l).length = l.length := List.size_toArray ..
    rw [hl, strip_none (l.drop f) fun k hk => by
      rw [List.drop_drop] at hk
      exact hn (f + k) (by omega) ((at_two l 13 10 (f + k)).mpr hk)]
    exact List.take_of_length_le (by rw [List.length_drop]; exact Nat.le_refl _)
  | c :: r, a, f, h, hn => by
    obtain ⟨h1, h2, h3, h4⟩ := h
    have ih := strip_chain l r (c + 2) f h4 hn
    obtain ⟨t, ht⟩ := (at_two l 13 10 c).mp h2
    show (strSub (S l) a c).cps.toList ++ (StrLaws.partsFrom (S l) 2 (c + 2) r).flatMap (fun p => p.cps.toList) = _
    rw [ih, StrLaws.strSub_toList, strip_run (c - a) (l.drop a) fun k hk hr => by
      rw [List.drop_drop] at hr
      exact h3 (a + k) (by omega) (by omega) ((at_two l 13 10 (a + k)).mpr hr)]
    have e : (l.drop a).drop (c - a) = 13 :: 10 :: l.drop (c + 2) := by
      rw [List.drop_drop]
      have : a + (c - a) = c := by omega
      rw [this, ht]
      have h5 : l.drop (c + 2) = (l.drop c).drop 2 := by rw [List.drop_drop]
      rw [h5, ht]; rfl
    rw [e, strip_pair]
theorem replace_strip (l : List Nat) : Txt.replace (S l) (Str.ofString "\r\n") (Str.ofString "") = S (stripL l) := by
  have e : Str.ofString "\r\n" = ⟨#[13, 10]⟩ := by decide
  rw [e]
  obtain ⟨f, hf, hn⟩ := StrLaws.occ_tight (S l) ⟨#[13, 10]⟩ (by decide)
  have key := strip_chain l _ 0 f hf hn
  rw [List.drop_zero] at key
  apply Str.ext'
  rw [← Array.toList_inj]
  show _ = stripL l
  unfold Txt.replace
  split
  · rename_i h
    have he : occurrences (S l) ⟨#[13, 10]⟩ 0 (S l).length ((S l).length + 1) = [] := by
      have h2 : ((⟨#[13, 10]⟩ : Str).length == 0) = false := rfl
      rw [h2, Bool.false_and, Bool.or_false] at h
      exact List.isEmpty_iff.mp h
    rw [he] at key
    rw [← key]
    show l = (strSub (S l) 0 (S l).length).cps.toList ++ []
    rw [StrLaws.sub_whole, List.append_nil]
  · rw [StrLaws.glued_eq_join, StrLaws.partsBetween_eq, join_cat]
    exact key
theorem law_quote (b : Int) (h0 : 1 ≤ b) (h1 : b ≤ 6) (l : List Nat) : handL 0 (handL b l) = handL b (handL 0 l) ↔ mayL 0 b l = true := by
  unfold mayL
  rw [if_pos rfl]
  unfold may0L
  rw [handL0, handL0]
  have hb : b = 1 ∨ (b = 2 ∨ b = 4) ∨ b = 3 ∨ (b = 5 ∨ b = 6) := by omega
  rcases hb with rfl | hb | rfl | hb
  · rw [if_pos rfl, handL1, handL1, law_quote_param, slice_one]
    simp
  · rw [if_neg (by omega), if_pos hb, hand_esc (by omega) h1, hand_esc (by omega) h1, quote_flat (calm_esc hb)]
    simp
  · rw [if_neg (by decide), if_neg (by decide), if_pos rfl, hand_esc (by decide) (by decide), hand_esc (by decide) (by decide), law_quote3, has_cr, has_lf]
    by_cases q : 13 ∈ l <;> simp [q]
  · rw [if_neg (by omega), if_neg (by omega), if_neg (by omega), hand_esc (by omega) h1, hand_esc (by omega) h1, law_quote56 hb, replace_strip, has_cr, has_lf, has_pair]
    unfold lone
    by_cases q : 13 ∈ stripL l <;> by_cases q2 : 10 ∈ stripL l <;> simp [q, q2]
theorem law_all (a b : Int) (h0 : 0 ≤ a) (h1 : a < b) (h2 : b ≤ 6) (l : List Nat) : handL a (handL b l) = handL b (handL a l) ↔ mayL a b l = true := by
  by_cases a0 : a = 0
  · subst a0; exact law_quote b (by omega) h2 l
  · by_cases a1 : a = 1
    · subst a1; exact law_param (by omega) h2 l
    · exact law_esc (by omega) h1 h2 l
end Mine
end

/-! ## LawB -/
section
open PySem PySem.W PySem.Calls PySem.Spec PyProof.Rows PyProof.Rows.LCg
set_option maxRecDepth 100000
namespace Mine
theorem hand_len (k : Int) (l : List Nat) (h0 : 0 ≤ k) (h1 : k ≤ 6) (hl : l.length ≤ 10) : (handL k l).length ≤ 100 := by
  rw [hand_written k l h0 h1]
  have e : ∀ (g : Nat → Str), (∀ c, (g c).length ≤ 8) → (l.flatMap fun c => (g c).cps.toList).length ≤ 8 * l.length := by
    intro g hg
    clear hl
    induction l with
    | nil => exact Nat.zero_le _
    | cons a r ih =>
      have := hg a
      have h2 : (g a).cps.toList.length ≤ 8 := by rw [Array.length_toList]; exact this
      simp only [List.flatMap_cons, List.length_append, List.length_cons]
      omega
  unfold writtenL
  by_cases k0 : k = 0
  · rw [if_pos k0]
    have := qstate_len l
    omega
  · rw [if_neg k0]
    by_cases k1 : k = 1
    · rw [if_pos k1]
      by_cases hn : l = []
      · rw [if_pos hn]; decide
      · rw [if_neg hn]
        have := e heldL heldL_len
        simp only [List.length_append, List.length_cons, List.length_nil]
        omega
    · rw [if_neg k1]
      have := e (wrapL k) (wrapL_len k)
      omega
def tri (k : Int) : Int := k * (k - 1) / 2
theorem tri_facts {k : Int} (h0 : 1 ≤ k) (h1 : k ≤ 6) : 0 ≤ tri k ∧ tri k + k ≤ 21 ∧ tri (k + 1) = tri k + k := by
  have : k = 1 ∨ k = 2 ∨ k = 3 ∨ k = 4 ∨ k = 5 ∨ k = 6 := by omega
  rcases this with rfl | rfl | rfl | rfl | rfl | rfl <;> decide
/-- the pairs, by their places -/
def pairs21 : List (Int × Int) := [(0,1),(0,2),(1,2),(0,3),(1,3),(2,3),(0,4),(1,4),(2,4),(3,4),(0,5),(1,5),(2,5),(3,5),(4,5),(0,6),(1,6),(2,6),(3,6),(4,6),(5,6)]
def pairAt (p : Nat) : Int × Int := pairs21.getD p (0, 1)
def sameP (l : List Nat) (p : Nat) : Bool := S (handL (pairAt p).1 (handL (pairAt p).2 l)) == S (handL (pairAt p).2 (handL (pairAt p).1 l))
def mayP (l : List Nat) (p : Nat) : Bool := mayL (pairAt p).1 (pairAt p).2 l
def freeN (l : List Nat) : Nat → Int
  | 0 => 0
  | n + 1 => freeN l n + (if sameP l n then 2 ^ n else 0)
def toldN (l : List Nat) : Nat → List Int
  | 0 => []
  | n + 1 => toldN l n ++ (if mayP l n then [(n : Int)] else [])
def othersN (l : List Nat) : Nat → List Int
  | 0 => []
  | n + 1 => othersN l n ++ (if mayP l n then [] else [(n : Int)])
/-- what holds at a place -/
structure LInv (l : List Nat) (p f : Int) (t o : List Int) : Prop where
  f : f = freeN l p.toNat
  t : t = toldN l p.toNat
  o : o = othersN l p.toNat
theorem pair_at {one two p : Int} (h0 : 0 ≤ one) (h1 : one < two) (h2 : two ≤ 6) (hp : p = tri two + one) : pairAt p.toNat = (one, two) := by
  subst hp
  have : two = 1 ∨ two = 2 ∨ two = 3 ∨ two = 4 ∨ two = 5 ∨ two = 6 := by omega
  have h : one = 0 ∨ one = 1 ∨ one = 2 ∨ one = 3 ∨ one = 4 ∨ one = 5 := by omega
  rcases this with rfl | rfl | rfl | rfl | rfl | rfl <;> rcases h with rfl | rfl | rfl | rfl | rfl | rfl <;> first | (exfalso; omega) | decide
/-- the outer loop's word, with the next two = 1 + i -/
def OutP (text : Str) (i : Int) (f : Int) (t o : List Int) (p : Int) : Prop := p = tri (1 + i) ∧ 0 ≤ p ∧ (t.length : Int) ≤ p ∧ (o.length : Int) ≤ p ∧ LInv text.cps.toList p f t o
structure IsSeven (b : Int) : Prop where
  e : b = 7
section
theorem range_gen {prog : Program} {w : World} {A : Around} {E : Value → Shared → Prop} {s : Shared} {Q : Value → Shared → Prop} {t u : Tok} (h : ∀ b : Int, IsSeven b → wpAny (model prog w) A (call (.type "range") [.int 1 t, .int b u]) Q E s) :
    wpAny (model prog w) A (call (.type "range") [.int 1 t, .int 7 u]) Q E s := h 7 ⟨rfl⟩
variable {prog : Program} {w : World} {A : Around} {E : Value → Shared → Prop} {s : Shared} {a b : Addr} {xs ys : List Value} {l : List Nat} {h₀ : Heap} {L : Addr} {news : List (Addr × Obj)}
theorem ne_done {Q : Value → Shared → Prop} (N : News h₀ L s.heap news) (ha : (a, lst xs) ∈ news) (hb : (b, lst ys) ∈ news) (hi : StrsAre xs ((rangeKs 0 7).map fun k => S (handL k l))) (hj : StrsAre ys ((rangeKs 0 7).map fun k => S (writtenL k l))) (hu : A.units < cLine) (h : Q (.bool false) s) :
    wpAny (model prog w) A (compareOp .NotEq (.ref a) (.ref b)) Q E s := by
  have e : ((rangeKs 0 7).map fun k => S (writtenL k l)) = (rangeKs 0 7).map fun k => S (handL k l) := by
    refine List.map_congr_left fun k hk => ?_
    have : rangeKs 0 7 = [0, 1, 2, 3, 4, 5, 6] := by decide
    rw [this] at hk
    have hb : 0 ≤ k ∧ k ≤ 6 := by
      simp only [List.mem_cons, List.mem_nil_iff, or_false] at hk
      omega
    rw [hand_written k l hb.1 hb.2]
  rw [e] at hj
  exact ne_strs N ha hb hi hj hu h
theorem item_done {Q : Value → Shared → Prop} {value slice : Expr} {i : Int} {u : Tok} (N : News h₀ L s.heap news) (hm : (a, lst xs) ∈ news) (hi : StrsAre xs ((rangeKs 0 7).map fun k => S (handL k l))) (k0 : 0 ≤ i) (k1 : i ≤ 6) (h : ∀ t', Q (.str (S (handL i l)) t') s)
    (hs : subscripted slice false (.ref a) (.int i u) = operate [.ref a, .int i u] (getItem (.ref a) (.int i u)) := by with_unfolding_all rfl) :
    wpAny (model prog w) A (subscriptTail value slice (.ref a) (.int i u)) Q E s := by
  have e7 : ((rangeKs 0 7).map fun k => S (handL k l)).length = 7 := by rw [List.length_map]; decide
  refine PySem.W.KTb.item_list (N.isList hm) hi k0 (by rw [e7]; omega) (by omega) (fun t' _ => ?_) hs
  have : ((rangeKs 0 7).map fun k => S (handL k l)).getD i.toNat Str.empty = S (handL i l) := by
    have e : rangeKs 0 7 = [0, 1, 2, 3, 4, 5, 6] := by decide
    rw [e]
    have c : i = 0 ∨ i = 1 ∨ i = 2 ∨ i = 3 ∨ i = 4 ∨ i = 5 ∨ i = 6 := by omega
    rcases c with rfl | rfl | rfl | rfl | rfl | rfl | rfl <;> rfl
  rw [this]
  exact h t'
end
end Mine
end

/-! ## LawC -/
section
open PySem PySem.W PySem.Calls PySem.Spec PyProof.Rows PyProof.Rows.LCg
set_option maxRecDepth 100000
namespace Mine
theorem pairs_in : ∀ p, p < 21 → 0 ≤ (pairAt p).1 ∧ (pairAt p).1 < (pairAt p).2 ∧ (pairAt p).2 ≤ 6 := by decide
theorem S_inj {a b : List Nat} : S a = S b ↔ a = b := by
  constructor
  · intro h
    have := congrArg (fun z : Str => z.cps.toList) h
    simpa using this
  · intro h; rw [h]
theorem same_may (l : List Nat) (p : Nat) (hp : p < 21) : sameP l p = mayP l p := by
  obtain ⟨h0, h1, h2⟩ := pairs_in p hp
  unfold sameP mayP
  rw [Bool.eq_iff_iff, beq_iff_eq, S_inj]
  exact law_all _ _ h0 h1 h2 l
theorem st_0 {l : List Nat} : (0 : Int) = tri (1 + (([] : List Int).length : Int)) ∧ (0 : Int) ≤ 0 ∧ (([] : List Int).length : Int) ≤ 0 ∧ (([] : List Int).length : Int) ≤ 0 ∧ LInv l 0 0 [] [] :=
  ⟨by decide, by decide, by decide, by decide, ⟨rfl, rfl, rfl⟩⟩
theorem st_1 {l : List Nat} {pre t o : List Int} {k p f : Int} (I : LInv l p f t o) (hp : p = tri (1 + (pre.length : Int))) (hk : k = 1 + (pre.length : Int)) (hb : 0 ≤ tri k ∧ tri k + k ≤ 21 ∧ tri (k + 1) = tri k + k) (ht : (t.length : Int) ≤ p) (ho : (o.length : Int) ≤ p) :
    p = tri k + (([] : List Int).length : Int) ∧ 0 ≤ p ∧ p + k ≤ 21 + (([] : List Int).length : Int) ∧ (t.length : Int) ≤ p ∧ (o.length : Int) ≤ p ∧ LInv l p f t o := by
  rw [← hk] at hp
  refine ⟨?_, ?_, ?_, ht, ho, I⟩ <;> (try simp only [List.length_nil]) <;> omega
theorem st_2 {l : List Nat} {pre t o : List Int} {k p f : Int} (I : LInv l p f t o) (hp : p = tri k + ((rangeKs 0 (k - 0).toNat).length : Int)) (h0 : 0 ≤ p) (hk : k = 1 + (pre.length : Int)) (hb : 0 ≤ tri k ∧ tri k + k ≤ 21 ∧ tri (k + 1) = tri k + k) (ht : (t.length : Int) ≤ p) (ho : (o.length : Int) ≤ p) :
    p = tri (1 + ((pre ++ [k]).length : Int)) ∧ 0 ≤ p ∧ (t.length : Int) ≤ p ∧ (o.length : Int) ≤ p ∧ LInv l p f t o := by
  refine ⟨?_, h0, ht, ho, I⟩
  have e : 1 + ((pre ++ [k]).length : Int) = k + 1 := by rw [List.length_append]; simp only [List.length_cons, List.length_nil]; omega
  rw [e, hb.2.2, hp, rangeKs_length]
  omega
theorem st_next {l : List Nat} {t o t' o' : List Int} {one two p f f' : Int} {e m : Bool} (I : LInv l p f t o) (hp : p = tri two + one) (h0 : 0 ≤ p) (k0 : 0 ≤ one) (k1 : one < two) (k2 : two ≤ 6)
    (he : (S (handL one (handL two l)) == S (handL two (handL one l))) = e) (hm : mayL one two l = m) (hf : f' = if e then f + 2 ^ p.toNat else f) (ht : t' = if m then t ++ [p] else t) (ho : o' = if m then o else o ++ [p]) : LInv l (p + 1) f' t' o' := by
  obtain ⟨hf0, ht0, ho0⟩ := I
  have ep := pair_at k0 k1 k2 hp
  have e1 : (p + 1).toNat = p.toNat + 1 := by omega
  have e2 : (p.toNat : Int) = p := by omega
  have es : sameP l p.toNat = e := by unfold sameP; rw [ep]; exact he
  have em : mayP l p.toNat = m := by unfold mayP; rw [ep]; exact hm
  refine ⟨?_, ?_, ?_⟩
  · rw [e1, freeN, es, hf, hf0]
    cases e <;> simp
  · rw [e1, toldN, em, ht, ht0, e2]
    cases m <;> simp
  · rw [e1, othersN, em, ho, ho0, e2]
    cases m <;> simp
theorem st_in {l : List Nat} {pre t o t' o' : List Int} {one two p f f' : Int} {e m : Bool} (I : LInv l p f t o) (hp : p = tri two + (pre.length : Int)) (h0 : 0 ≤ p) (h21 : p + two ≤ 21 + (pre.length : Int)) (kEq : one = 0 + (pre.length : Int)) (kLt : pre.length < (two - 0).toNat) (k2 : two ≤ 6)
    (he : (S (handL one (handL two l)) == S (handL two (handL one l))) = e) (hm : mayL one two l = m) (hf : f' = if e then f + 2 ^ p.toNat else f) (ht : t' = if m then t ++ [p] else t) (ho : o' = if m then o else o ++ [p]) (lt : (t.length : Int) ≤ p) (lo : (o.length : Int) ≤ p) :
    p + 1 = tri two + ((pre ++ [one]).length : Int) ∧ 0 ≤ p + 1 ∧ p + 1 + two ≤ 21 + ((pre ++ [one]).length : Int) ∧ (t'.length : Int) ≤ p + 1 ∧ (o'.length : Int) ≤ p + 1 ∧ LInv l (p + 1) f' t' o' := by
  have e1 : ((pre ++ [one]).length : Int) = pre.length + 1 := by rw [List.length_append]; rfl
  rw [e1]
  refine ⟨by omega, by omega, by omega, ?_, ?_, st_next I (by omega) h0 (by omega) (by omega) k2 he hm hf ht ho⟩
  · rw [ht]; cases m <;> simp <;> omega
  · rw [ho]; cases m <;> simp <;> omega
theorem free_nat (l : List Nat) : ∀ n : Nat, ∃ F : Nat, freeN l n = (F : Int) ∧ F < 2 ^ n ∧ ∀ p, p < n → F.testBit p = sameP l p
  | 0 => ⟨0, rfl, by decide, fun p hp => absurd hp (Nat.not_lt_zero _)⟩
  | n + 1 => by
    obtain ⟨F, h1, h2, h3⟩ := free_nat l n
    cases hs : sameP l n with
    | false =>
      refine ⟨F, by simp [freeN, hs, h1], Nat.lt_trans h2 (Nat.pow_lt_pow_right (by omega) (Nat.lt_succ_self n)), fun p hp => ?_⟩
      by_cases e : p = n
      · rw [e, hs]
        exact Nat.testBit_lt_two_pow h2
      · exact h3 p (by omega)
    | true =>
      refine ⟨2 ^ n + F, by simp [freeN, hs, h1]; omega, by rw [Nat.pow_succ]; omega, fun p hp => ?_⟩
      by_cases e : p = n
      · rw [e, hs, Nat.testBit_two_pow_add_eq, Nat.testBit_lt_two_pow h2]; rfl
      · rw [Nat.testBit_two_pow_add_gt (by omega)]
        exact h3 p (by omega)
theorem told_filter (l : List Nat) : ∀ n : Nat, toldN l n = ((List.range n).filter fun p => mayP l p).map fun p : Nat => (p : Int)
  | 0 => rfl
  | n + 1 => by
    rw [toldN, told_filter l n, List.range_succ, List.filter_append, List.map_append]
    cases h : mayP l n <;> simp [h]
theorem others_filter (l : List Nat) : ∀ n : Nat, othersN l n = ((List.range n).filter fun p => !mayP l p).map fun p : Nat => (p : Int)
  | 0 => rfl
  | n + 1 => by
    rw [othersN, others_filter l n, List.range_succ, List.filter_append, List.map_append]
    cases h : mayP l n <;> simp [h]
/-- the words of a number's bits are the words of the places -/
theorem words_bits (F : Nat) (hF : F < 2 ^ 21) (g : Nat → Bool) (hg : ∀ p, p < 21 → F.testBit p = g p) :
    (if F = 0 then Str.ofString "0x0" else Txt.join (Str.ofString ", ") (wordsF F 21)) = wordsT (((List.range 21).filter g).map fun p : Nat => (p : Int)) := by
  have e : (List.range 21).filter (fun p => F.testBit p) = (List.range 21).filter g := List.filter_congr fun p hp => hg p (List.mem_range.mp hp)
  unfold wordsT
  have e2 : wordsF F 21 = (((List.range 21).filter g).map fun p : Nat => (p : Int)).map wordT := by unfold wordsF; rw [e, List.map_map]; rfl
  rw [← e2]
  by_cases h0 : F = 0
  · have : ((List.range 21).filter g).map (fun p : Nat => (p : Int)) = [] := by
      rw [← e, h0]; simp
    rw [if_pos h0, if_pos this]
  · have : ((List.range 21).filter g).map (fun p : Nat => (p : Int)) ≠ [] := by
      intro hn
      rw [← e, List.map_eq_nil_iff, List.filter_eq_nil_iff] at hn
      refine h0 (Nat.eq_of_testBit_eq fun i => ?_)
      rw [Nat.zero_testBit]
      by_cases hi : i < 21
      · have := hn i (List.mem_range.mpr hi)
        simpa using this
      · exact Nat.testBit_lt_two_pow (Nat.lt_of_lt_of_le hF (Nat.pow_le_pow_right (by omega) (by omega)))
    rw [if_neg h0, if_neg this]
theorem c_flagsA (w : World) (mean : ExcName → Option Value) (mg mb : Str → Option Value) (l : List Nat) (f : Int) (t : Tok) (hf : f = freeN l 21) :
    Says w mean mg mb 2 56 [.int f t] (fun _ => True) (fun r => ∃ t', r = .str (wordsT (toldN l 21)) t') := by
  obtain ⟨F, h1, h2, h3⟩ := free_nat l 21
  have := c_flags w mean mg mb F t h2
  rw [words_bits F h2 (fun p => mayP l p) (fun p hp => by rw [h3 p hp, same_may l p hp]), ← told_filter] at this
  rw [hf, h1]
  exact this
theorem c_flagsB (w : World) (mean : ExcName → Option Value) (mg mb : Str → Option Value) (l : List Nat) (f g : Int) (t : Tok) (hf : f = freeN l 21) (hg : g = 2097151 - f) :
    Says w mean mg mb 2 56 [.int g t] (fun _ => True) (fun r => ∃ t', r = .str (wordsT (othersN l 21)) t') := by
  obtain ⟨F, h1, h2, h3⟩ := free_nat l 21
  have e21 : (2 : Nat) ^ 21 = 2097152 := by decide
  have := c_flags w mean mg mb (2 ^ 21 - (F + 1)) t (by omega)
  rw [words_bits (2 ^ 21 - (F + 1)) (by omega) (fun p => !mayP l p) (fun p hp => by rw [Nat.testBit_two_pow_sub_succ h2, h3 p hp, same_may l p hp]; simp [hp]), ← others_filter] at this
  have e : g = ((2 ^ 21 - (F + 1) : Nat) : Int) := by rw [hg, hf, h1]; omega
  rw [e]
  exact this
theorem fin_p {t o : List Int} {p f : Int} {lT : List Nat} {n : Nat} (I : LInv lT p f t o) (hp : p = tri (1 + ((rangeKs 1 n).length : Int))) (hn : n = 6) : f = freeN lT 21 ∧ t = toldN lT 21 ∧ o = othersN lT 21 := by
  have e : p = 21 := by rw [hp, rangeKs_length, hn]; decide
  subst e
  exact ⟨I.f, I.t, I.o⟩
theorem fin_free {t o : List Int} {p f : Int} {l : List Nat} {n : Nat} (I : LInv l p f t o) (hp : p = tri (1 + ((rangeKs 1 n).length : Int))) (hn : n = 6) : f = freeN l 21 := (fin_p I hp hn).1
theorem fin_told {t o : List Int} {p f : Int} {l : List Nat} {n : Nat} (I : LInv l p f t o) (hp : p = tri (1 + ((rangeKs 1 n).length : Int))) (hn : n = 6) : t = toldN l 21 := (fin_p I hp hn).2.1
theorem fin_others {t o : List Int} {p f : Int} {l : List Nat} {n : Nat} (I : LInv l p f t o) (hp : p = tri (1 + ((rangeKs 1 n).length : Int))) (hn : n = 6) : o = othersN l 21 := (fin_p I hp hn).2.2
theorem filter_bound (g : Nat → Bool) (x : Int) (h : x ∈ ((List.range 21).filter g).map fun p : Nat => (p : Int)) : 0 ≤ x ∧ x ≤ 20 := by
  obtain ⟨p, hp, rfl⟩ := List.mem_map.mp h
  have := List.mem_range.mp (List.mem_filter.mp hp).1
  omega
theorem filter_len (g : Nat → Bool) : (((List.range 21).filter g).map fun p : Nat => (p : Int)).length ≤ 21 := by
  rw [List.length_map]
  exact Nat.le_trans (List.length_filter_le _ _) (by rw [List.length_range]; exact Nat.le_refl _)
theorem c_wordsA (w : World) (mean : ExcName → Option Value) (mg mb : Str → Option Value) (l : List Nat) (q : Addr) (vs : List Value) (ns : List Int) (hi : IntsAre vs ns) (hn : ns = toldN l 21) :
    Says w mean mg mb 2 149 [.ref q] (fun h => h.IsList q vs.toArray) (fun r => ∃ t', r = .str (wordsT (toldN l 21)) t') := by
  have := c_words w mean mg mb q vs ns hi (fun n h => by rw [hn, told_filter] at h; exact filter_bound _ n h) (by rw [hn, told_filter]; exact filter_len _)
  rw [hn] at this
  exact this
theorem c_wordsB (w : World) (mean : ExcName → Option Value) (mg mb : Str → Option Value) (l : List Nat) (q : Addr) (vs : List Value) (ns : List Int) (hi : IntsAre vs ns) (hn : ns = othersN l 21) :
    Says w mean mg mb 2 149 [.ref q] (fun h => h.IsList q vs.toArray) (fun r => ∃ t', r = .str (wordsT (othersN l 21)) t') := by
  have := c_words w mean mg mb q vs ns hi (fun n h => by rw [hn, others_filter] at h; exact filter_bound _ n h) (by rw [hn, others_filter]; exact filter_len _)
  rw [hn] at this
  exact this
theorem isList_of {h₀ h : Heap} {L a : Addr} {news : List (Addr × Obj)} {xs : List Value} {k : Nat} (N : News h₀ L h news) (hm : (a, listOf xs.toArray k) ∈ news) : h.IsList a xs.toArray := ⟨_, N.get hm, rfl, _, rfl⟩
end Mine
end

/-! ## Law1 -/
section
open PySem PySem.W PySem.Calls PySem.Spec PyProof.Rows PyProof.Rows.LCg
set_option maxRecDepth 100000
namespace Mine
local macro_rules | `(tactic| walk_at $s:str) => `(tactic| k_extra $s)

set_option maxHeartbeats 40000000 in
theorem law_holds : PySem.Challenge.rw_ta0016_01.Holds := hd (by
  k_with_none
  k_with "CompSrc" => ((k_here; k_dflt (refine' LCg.CompSrc.ledger ?zqh ?zqF ?zqN ?zqm ?zqz ?_; (case zqh => rfl); (case zqF => k_asm); (case zqN => k_asm); (case zqm => exact List.Mem.head _); (case zqz => size_fits); intro g9; (refine' rest_signs (by assumption) (fun k' t' I' oI' C' oC' D' m' ys' h' tk' E' hC' hx' F' N' off' ne' => ?_) (fun ys' l' hy' hl' => ?_)); (all_goals (try simp only [Off3, and_true] at off')))))
  k_with "call builtin:str.join" => ((k_here; (with_reducible show wpAny _ _ (call (Value.builtin "str.join") [Value.str _ _, Value.ref _]) _ _ _); k_dflt (refine' join_signs ?zqN ?zqy ?zqm ?zql ?_; (case zqN => k_asm); (case zqy => assumption); (case zqm => k_mem); (case zql => (first | omega | (simp only [List.length_take, List.length_drop] at *; omega)))); intro _ _ _ _))
  k_with "exec Assign cons ListComp" => ((k_here; k_dflt (refine LCg.Assign_ListComp_U (F₀ := by k_asm) (by rfl) (by with_unfolding_all rfl) (by with_unfolding_all rfl) (by decide) (by rfl) (by decide) (by rfl) (by rfl) (by rfl) ?_)))
  k_with "CompSrc" => ((k_here; (with_reducible show CompSrc _ _ _ _ _ _ _ (Expr.Call (Expr.Name (Str.ofString "_law_hand") _) _ _ _) _ _ _ _ _ _); k_dflt (refine' LCg.CompSrc.range (n := 7) ?zqh ?zqF ?zqN ?zqr ?zqs ?zqe ?zqz ?_; (case zqh => rfl); (case zqF => k_asm); (case zqN => k_asm); (case zqr => assumption); (case zqs => decide); (case zqe => decide); (case zqz => exact Nat.le_of_ble_eq_true rfl); intro g9; (refine' rest_hand (by assumption) (fun k' t' I' oI' C' oC' D' m' ys' h' tk' E' hlo' hhi' hC' hx' F' N' off' ne' => ?_) (fun ys' hy' => ?_)); (all_goals (try simp only [Off3, and_true] at off')))))
  k_with "CompSrc" => ((k_here; (with_reducible show CompSrc _ _ _ _ _ _ _ (Expr.Call (Expr.Name (Str.ofString "_law_written") _) _ _ _) _ _ _ _ _ _); k_dflt (refine' LCg.CompSrc.range (n := 7) ?zqh ?zqF ?zqN ?zqr ?zqs ?zqe ?zqz ?_; (case zqh => rfl); (case zqF => k_asm); (case zqN => k_asm); (case zqr => assumption); (case zqs => decide); (case zqe => decide); (case zqz => exact Nat.le_of_ble_eq_true rfl); intro g9; (refine' rest_written (by assumption) (fun k' t' I' oI' C' oC' D' m' ys' h' tk' E' hlo' hhi' hC' hx' F' N' off' ne' => ?_) (fun ys' hy' => ?_)); (all_goals (try simp only [Off3, and_true] at off')))))
  k_with "compareOp NotEq ref ref" => ((k_here; (with_reducible show wpAny _ _ (compareOp CmpOp.NotEq (Value.ref _) (Value.ref _)) _ _ _); k_dflt (refine' ne_done ?zqN ?zqa ?zqb ?zqi ?zqj ?zqu ?_; (case zqN => k_asm); (case zqa => k_mem); (case zqb => k_mem); (case zqi => with_reducible assumption); (case zqj => with_reducible assumption); (case zqu => ktr_units))))
  k_with "exec For Name Call cons nil" => ((k_here; (rename Fr _ _ _ _ => lF'); (with_unfolding_all refine' For_invVF lF' ?zqk1 ?zqk2 ?_; (case zqk1 => exact rfl); (case zqk2 => exact rfl); k_whole)))
  k_with "call type:range" => ((k_here; k_dflt (refine' range_gen (fun b9 hb9 => ?_))))
  k_with "call type:range" => ((k_here; (rename Fr _ _ _ _ => F'); (rename News _ _ _ _ => N'); (with_unfolding_all refine range1_rows F' N' ?_); intro _ _ _ _ _ _ _ _ _))
  k_with "subscriptTail Name Name ref int" => ((k_here; k_dflt (refine' item_done ?zqN ?zqm ?zqi ?zqk0 ?zqk1 ?_ ?zqhs; (case zqN => k_asm); (case zqm => k_mem); (case zqi => with_reducible assumption); (case zqk0 => omega); (case zqk1 => omega); (case zqhs => with_unfolding_all rfl)); intro _))
  k_with "InvEndN" => (k_dflt kst_close)
  k_with "TextEl" => (exact ⟨rfl, _, rfl⟩)
  k_with "SignEl" => (exact ⟨rfl, _, _, rfl⟩)
  k_with "call ref" => ((k_here; k_dflt (first | (refine' says_use (c_hand _ _ _ _ _ _ _ _ ?zqh1 ?zqh2 ?zqh3) ?zqB ?zqF ?zqX ?zqN ?zqT ?zqk ?zqd ?zqu ?zqp ?_; (case zqh1 => omega); (case zqh2 => omega); (case zqh3 => first | omega | (exact hand_len _ _ (by omega) (by omega) (by omega))); (case zqB => k_asm); (case zqF => k_asm); (case zqX => k_asm); (case zqN => k_asm); (case zqT => k_asm); (case zqk => first | exact rfl | assumption); (case zqd => ktr_room); (case zqu => ktr_units); (case zqp => trivial); k_whole; intro r9 h9 tk9 F9 N9 hr9; obtain ⟨t9, hq9⟩ := hr9; subst hq9; k_sweep) | (refine' says_use (c_written _ _ _ _ _ _ _ _ ?zqh1 ?zqh2 ?zqh3) ?zqB ?zqF ?zqX ?zqN ?zqT ?zqk ?zqd ?zqu ?zqp ?_; (case zqh1 => omega); (case zqh2 => omega); (case zqh3 => omega); (case zqB => k_asm); (case zqF => k_asm); (case zqX => k_asm); (case zqN => k_asm); (case zqT => k_asm); (case zqk => first | exact rfl | assumption); (case zqd => ktr_room); (case zqu => ktr_units); (case zqp => trivial); k_whole; intro r9 h9 tk9 F9 N9 hr9; obtain ⟨t9, hq9⟩ := hr9; subst hq9; k_sweep) | (refine' says_use (c_sign _ _ _ _ _ _) ?zqB ?zqF ?zqX ?zqN ?zqT ?zqk ?zqd ?zqu ?zqp ?_; (case zqB => k_asm); (case zqF => k_asm); (case zqX => k_asm); (case zqN => k_asm); (case zqT => k_asm); (case zqk => first | exact rfl | assumption); (case zqd => ktr_room); (case zqu => ktr_units); (case zqp => trivial); k_whole; intro r9 h9 tk9 F9 N9 hr9; obtain ⟨c9, t9, hq9⟩ := hr9; subst hq9; k_sweep) | (refine' says_use (c_may _ _ _ _ _ _ _ _ _ _ ?zqh1 ?zqh2 ?zqh3 ?zqh4) ?zqB ?zqF ?zqX ?zqN ?zqT ?zqk ?zqd ?zqu ?zqp ?_; (case zqh1 => omega); (case zqh2 => omega); (case zqh3 => omega); (case zqh4 => omega); (case zqB => k_asm); (case zqF => k_asm); (case zqX => k_asm); (case zqN => k_asm); (case zqT => k_asm); (case zqk => first | exact rfl | assumption); (case zqd => ktr_room); (case zqu => ktr_units); (case zqp => trivial); k_whole; intro r9 h9 tk9 F9 N9 hr9; have hq9 := hr9; (try dsimp only at hq9); subst hq9; k_sweep) | (refine' says_use (c_flagsA _ _ _ _ _ _ _ ?zqh1) ?zqB ?zqF ?zqX ?zqN ?zqT ?zqk ?zqd ?zqu ?zqp ?_; (case zqh1 => exact fin_free (by with_reducible assumption) (by with_reducible assumption) (by omega)); (case zqB => k_asm); (case zqF => k_asm); (case zqX => k_asm); (case zqN => k_asm); (case zqT => k_asm); (case zqk => first | exact rfl | assumption); (case zqd => ktr_room); (case zqu => ktr_units); (case zqp => trivial); k_whole; intro r9 h9 tk9 F9 N9 hr9; obtain ⟨t9, hq9⟩ := hr9; subst hq9; k_sweep) | (refine' says_use (c_flagsB _ _ _ _ _ _ _ _ ?zqh1 ?zqh2) ?zqB ?zqF ?zqX ?zqN ?zqT ?zqk ?zqd ?zqu ?zqp ?_; (case zqh1 => exact fin_free (by with_reducible assumption) (by with_reducible assumption) (by omega)); (case zqh2 => first | rfl | omega); (case zqB => k_asm); (case zqF => k_asm); (case zqX => k_asm); (case zqN => k_asm); (case zqT => k_asm); (case zqk => first | exact rfl | assumption); (case zqd => ktr_room); (case zqu => ktr_units); (case zqp => trivial); k_whole; intro r9 h9 tk9 F9 N9 hr9; obtain ⟨t9, hq9⟩ := hr9; subst hq9; k_sweep) | (refine' says_use (c_wordsA _ _ _ _ _ _ _ _ ?zqh1 ?zqh2) ?zqB ?zqF ?zqX ?zqN ?zqT ?zqk ?zqd ?zqu ?zqp ?_; (case zqp => (refine' isList_of ?zqN9 ?zqm9; (case zqN9 => k_asm); (case zqm9 => first | exact List.Mem.head _ | exact List.Mem.tail _ (List.Mem.head _)))); (case zqh1 => with_reducible assumption); (case zqh2 => exact fin_told (by with_reducible assumption) (by with_reducible assumption) (by omega)); (case zqB => k_asm); (case zqF => k_asm); (case zqX => k_asm); (case zqN => k_asm); (case zqT => k_asm); (case zqk => first | exact rfl | assumption); (case zqd => ktr_room); (case zqu => ktr_units); k_whole; intro r9 h9 tk9 F9 N9 hr9; obtain ⟨t9, hq9⟩ := hr9; subst hq9; k_sweep) | (refine' says_use (c_wordsB _ _ _ _ _ _ _ _ ?zqh1 ?zqh2) ?zqB ?zqF ?zqX ?zqN ?zqT ?zqk ?zqd ?zqu ?zqp ?_; (case zqp => (refine' isList_of ?zqN9 ?zqm9; (case zqN9 => k_asm); (case zqm9 => first | exact List.Mem.head _ | exact List.Mem.tail _ (List.Mem.head _)))); (case zqh1 => with_reducible assumption); (case zqh2 => exact fin_others (by with_reducible assumption) (by with_reducible assumption) (by omega)); (case zqB => k_asm); (case zqF => k_asm); (case zqX => k_asm); (case zqN => k_asm); (case zqT => k_asm); (case zqk => first | exact rfl | assumption); (case zqd => ktr_room); (case zqu => ktr_units); k_whole; intro r9 h9 tk9 F9 N9 hr9; obtain ⟨t9, hq9⟩ := hr9; subst hq9; k_sweep))))
  w_strict (k_go0; (all_goals try k_fold); (k_with "pyIter ref" => (k_of "one" => ((rename List Nat => lT); k_state_given ["two"] (fun two pre free told others place => place = tri two + (pre.length : Int) ∧ 0 ≤ place ∧ place + two ≤ 21 + (pre.length : Int) ∧ (told.length : Int) ≤ place ∧ (others.length : Int) ≤ place ∧ LInv lT place free told others) "free" "told" "others" "place"))); (k_with "pyIter ref" => (k_of "two" => ((have hb7 := IsSeven.e (by assumption)); (rename List Nat => lT); k_state (fun pre free told others place => place = tri (1 + (pre.length : Int)) ∧ 0 ≤ place ∧ (told.length : Int) ≤ place ∧ (others.length : Int) ≤ place ∧ LInv lT place free told others) "free" "told" "others" "place"; (try (have hb8 := tri_facts (k := kN) (by omega) (by omega)))))); (k_with "state" => (first | exact st_0 | exact st_1 (by with_reducible assumption) (by with_reducible assumption) (by with_reducible assumption) (by with_reducible assumption) (by with_reducible assumption) (by with_reducible assumption) | exact st_2 (by with_reducible assumption) (by with_reducible assumption) (by with_reducible assumption) (by with_reducible assumption) (by with_reducible assumption) (by with_reducible assumption) (by with_reducible assumption) | exact st_in (e := true) (m := true) (by with_reducible assumption) (by with_reducible assumption) (by with_reducible assumption) (by with_reducible assumption) (by with_reducible assumption) (by with_reducible assumption) (by omega) (by with_reducible assumption) (by with_reducible assumption) (by rfl) (by rfl) (by rfl) (by with_reducible assumption) (by with_reducible assumption) | exact st_in (e := true) (m := false) (by with_reducible assumption) (by with_reducible assumption) (by with_reducible assumption) (by with_reducible assumption) (by with_reducible assumption) (by with_reducible assumption) (by omega) (by with_reducible assumption) (by with_reducible assumption) (by rfl) (by rfl) (by rfl) (by with_reducible assumption) (by with_reducible assumption) | exact st_in (e := false) (m := true) (by with_reducible assumption) (by with_reducible assumption) (by with_reducible assumption) (by with_reducible assumption) (by with_reducible assumption) (by with_reducible assumption) (by omega) (by with_reducible assumption) (by with_reducible assumption) (by rfl) (by rfl) (by rfl) (by with_reducible assumption) (by with_reducible assumption) | exact st_in (e := false) (m := false) (by with_reducible assumption) (by with_reducible assumption) (by with_reducible assumption) (by with_reducible assumption) (by with_reducible assumption) (by with_reducible assumption) (by omega) (by with_reducible assumption) (by with_reducible assumption) (by rfl) (by rfl) (by rfl) (by with_reducible assumption) (by with_reducible assumption))); k_steps))
end Mine
end

theorem PySem.Challenge.cw_ta0016_01_holds : PySem.Challenge.rw_ta0016_01.Holds := by
  exact Mine.law_holds
