import PyProof.Rows.All
import Wide.All
import OpenK.AllK
import Wide.FinOn
import PySem.Challenge.RW_rw0080_01
open PySem PySem.W PySem.Calls PyProof.Rows
set_option Elab.async false
namespace Mine
noncomputable abbrev PG : Program := PySem.Challenge.rw_rw0080_01.row.prog
noncomputable def qv : Program := view PySem.Challenge.pw_rw0080_01 [0, 2, 3, 5, 6, 7, 9, 11, 12, 13, 14, 15, 16, 17, 18, 19, 20]
theorem wsaid : PySem.Challenge.rw_rw0080_01.wellSaid = true := by
  rw [PySem.W.Fast.te9446332074065402090]
  kernel_rfl
noncomputable def xt (s : Shared) : Bool := xlAt qv [] s && recOk (RowW.records PySem.Challenge.rw_rw0080_01.row.toRowW) s
local macro_rules | `(tactic| o_law) => `(tactic| refine holds_law wsaid fun said => ?_)
local macro_rules | `(tactic| o_head $H) => `(tactic|
  refine (fun hh => holds_open (q := qv) (loose := [Str.ofString "COMPILER_FLAG_NAMES", Str.ofString "Whitespace"]) (Xt := xt) (XP := XL qv []) (Yf := Hook.obs $H) (Ya := Hook.val $H) (YP := Hook.says $H) (N := 2352) hh.1 (Hook.of $H) (Hook.keeps $H) (fun s e => xl_of s (Bool.and_eq_true_iff.mp e).1) XL.keeps (by rfl) (by rfl) (by rfl) (fun s e => recFacts_of (Bool.and_eq_true_iff.mp e).2) (by rfl) (by first | assumption | decide +kernel) (by decide +kernel) ⟨rfl, rfl, rfl, rfl, rfl, by decide +kernel⟩ ?hw hh.2) (?hc : LeftO _ _ _ _ _ _ _ ∧ WalkO _ _ _ _ _ _ _ _))
set_option maxRecDepth 100000 in
set_option maxHeartbeats 8000000 in
open_top hd for PySem.Challenge.rw_rw0080_01
noncomputable def asK : List Addr := [2, 3, 15, 17, 18, 20, 21, 22, 23, 25, 26, 28, 29, 30, 32, 33, 35, 36, 37, 39, 40, 42, 43, 44, 46, 47, 49, 50, 61, 63, 64, 66, 67, 68, 70, 71, 73, 74, 75, 77, 78, 80, 81, 82, 84, 85, 87, 88, 89, 91, 92, 94, 95, 96, 98, 99, 101, 102, 103, 105, 106, 108, 109, 110, 111, 112, 113, 114, 117, 119, 120, 122, 123, 124, 126, 127, 129, 130, 131, 134, 135, 136, 139, 140, 141, 144, 145, 146, 148, 149, 151, 152, 153, 156, 157, 158, 160, 161, 163, 164, 165, 168, 169, 170, 173, 174]
noncomputable abbrev hookK : Hook := kHook hd.heap_1 asK (fun _ => by kernel_rfl)
theorem left_boot {p q : Program} {loose : List Str} {Xt : Shared → Bool} {α : Type} {Yf : Shared → α} {Ya : World → α} {N : Nat} {g0 : Bool} (row : String)
    (op : ∀ w : World, (fencedOpening treeTable p w N).map (fun s => (s.heap, s.gens, s.drawn, s.toks)) = some (boot_heap w.params, #[], boot_drawn, boot_toks))
    (h : ∀ (b : Bool) (w : World) (os : OsState), (topFrom treeTable p (w.withFollow row b) N ⟨boot_heap (w.withFollow row b).params, #[], boot_drawn, boot_toks, os⟩).map (fun s => (openSeen q loose (importedModules p.main.body) Xt g0 s, Yf s)) = some (openGood q loose, Ya (w.withFollow row b))) :
    LeftO p q loose Xt Yf Ya N g0 := fun w => by
  obtain ⟨⟨hp, gs, d, k, os⟩, a, b⟩ := Option.map_eq_some_iff.mp (op w)
  obtain ⟨rfl, rfl, rfl, rfl⟩ : hp = boot_heap w.params ∧ gs = #[] ∧ d = boot_drawn ∧ k = boot_toks := by simpa using b
  have e := h (w.params.followText row) w os
  rw [World.withFollow_self w row] at e
  unfold openEnds
  rw [a]
  exact e
noncomputable def LeftB (b : Bool) : Prop := ∀ (w : World) (os : OsState), (topFrom treeTable PG (w.withFollow "special-get-raises" b) 2352 ⟨boot_heap (w.withFollow "special-get-raises" b).params, #[], boot_drawn, boot_toks, os⟩).map (fun s => (openSeen qv [Str.ofString "COMPILER_FLAG_NAMES", Str.ofString "Whitespace"] (importedModules PG.main.body) xt true s, Hook.obs hookK s)) = some (openGood qv [Str.ofString "COMPILER_FLAG_NAMES", Str.ofString "Whitespace"], Hook.val hookK (w.withFollow "special-get-raises" b))
theorem left_f : LeftB false := by
  delta LeftB topFrom
  intro w os
  rewrite [PySem.W.Fast.te4187177175401517315, PySem.W.Fast.te14364793385576792824, PySem.W.Fast.te14082659384304107361, PySem.W.Fast.te5923862056798008813, PySem.W.Fast.te8920871248978507458]
  kernel_rfl
theorem left_t : LeftB true := by
  delta LeftB topFrom
  intro w os
  rewrite [PySem.W.Fast.te4187177175401517315, PySem.W.Fast.te14364793385576792824, PySem.W.Fast.te14082659384304107361, PySem.W.Fast.te5923862056798008813, PySem.W.Fast.te8920871248978507458]
  kernel_rfl
theorem hdL : LeftO PG qv [Str.ofString "COMPILER_FLAG_NAMES", Str.ofString "Whitespace"] xt (Hook.obs hookK) (Hook.val hookK) 2352 :=
  left_boot "special-get-raises" (boot_open (by kernel_rfl) (by decide +kernel) (by intro s; kernel_rfl)) (fun b => by cases b; exact left_f; exact left_t)
theorem mode_off : True := by
  w_top off
  trivial
section
noncomputable abbrev LO : List Str := looseW qv [Str.ofString "COMPILER_FLAG_NAMES", Str.ofString "Whitespace"]
noncomputable def Kp (h h' : Heap) : Prop := ∀ b o, h.get? b = some o → h'.get? b = some o
theorem Kp.refl (h : Heap) : Kp h h := fun _ _ e => e
theorem Kp.trans {a b c : Heap} (x : Kp a b) (y : Kp b c) : Kp a c := fun _ _ e => y _ _ (x _ _ e)
theorem Fr.congr {h₀ h : Heap} {L : Addr} {m m' : Str → Option Value} (F : Fr h₀ L h m) (e : ∀ z, m z = m' z) : Fr h₀ L h m' := by
  have : m = m' := funext e
  exact this ▸ F
noncomputable def mapOf (l : List (Str × Option Value)) (z : Str) : Option Value := (l.lookup z).getD none
theorem mapOf_none {l : List (Str × Option Value)} {z : Str} (h : z ∉ l.map (·.1)) : mapOf l z = none := by
  induction l with
  | nil => rfl
  | cons p l ih =>
    simp only [List.map_cons, List.mem_cons, not_or] at h
    unfold mapOf
    rw [List.lookup_cons]
    have : (z == p.1) = false := by simpa using h.1
    rw [this]
    exact ih h.2
theorem to_mapOf {m : Str → Option Value} (l : List (Str × Option Value)) (hl : ∀ p ∈ l, m p.1 = p.2) (hr : ∀ z, z ∉ l.map (·.1) → m z = none) : ∀ z, m z = mapOf l z := by
  intro z
  by_cases h : z ∈ l.map (·.1)
  · clear hr
    induction l with
    | nil => cases h
    | cons p l ih =>
      unfold mapOf
      rw [List.lookup_cons]
      by_cases e : z = p.1
      · subst e
        simp only [beq_self_eq_true, Option.getD_some]
        exact hl p (List.mem_cons_self ..)
      · have : (z == p.1) = false := by simpa using e
        rw [this]
        simp only [List.map_cons, List.mem_cons, e, false_or] at h
        exact ih (fun q hq => hl q (List.mem_cons_of_mem _ hq)) h
  · rw [hr z h, mapOf_none h]
noncomputable def updL : List (Str × Option Value) → Str → Option Value → List (Str × Option Value)
  | [], k, v => [(k, v)]
  | p :: r, k, v => if p.1 = k then (k, v) :: r else p :: updL r k v
theorem mapOf_cons (p : Str × Option Value) (r : List (Str × Option Value)) (z : Str) : mapOf (p :: r) z = if z = p.1 then p.2 else mapOf r z := by
  unfold mapOf
  rw [List.lookup_cons]
  by_cases h : z = p.1
  · subst h; simp
  · have : (z == p.1) = false := by simpa using h
    rw [this, if_neg h]
theorem map_upd (l : List (Str × Option Value)) (k : Str) (v : Option Value) (z : Str) : (if z = k then v else mapOf l z) = mapOf (updL l k v) z := by
  induction l with
  | nil =>
    unfold updL
    rw [mapOf_cons]
  | cons p r ih =>
    unfold updL
    rw [mapOf_cons]
    by_cases h : p.1 = k
    · rw [if_pos h, mapOf_cons]
      subst h
      by_cases hz : z = p.1
      · rw [if_pos hz, if_pos hz]
      · rw [if_neg hz, if_neg hz, if_neg hz]
    · rw [if_neg h, mapOf_cons, ← ih]
      by_cases hz : z = p.1
      · have hk : ¬ z = k := fun e => h (hz.symm.trans e)
        rw [if_neg hk, if_pos hz, if_pos hz]
      · rw [if_neg hz, if_neg hz]
theorem map_step {m : Str → Option Value} {l : List (Str × Option Value)} {k : Str} {v : Option Value} (h : ∀ z, m z = mapOf l z) (z : Str) : (if z = k then v else m z) = mapOf (updL l k v) z := by
  rw [h z]; exact map_upd l k v z
theorem map_same (l : List (Str × Option Value)) (z : Str) : mapOf l z = mapOf l z := rfl
theorem fam {α β γ : Type} {Jv J : Nat → α → β → γ → Prop} (h : Jv = J) {i : Nat} {m : α} {n : β} {g : γ} (x : J i m n g) : Jv i m n g := by rw [h]; exact x
theorem room {a m n : Nat} (k : Nat) (h : a + n < m) (hk : k ≤ n := by decide) : a + k < m := Nat.lt_of_le_of_lt (Nat.add_le_add_left hk a) h
theorem lookup_mapOf {b : List (Str × Value)} {l : List (Str × Option Value)} (h : b.map (fun p => (p.1, some p.2)) = l) : ∀ z, b.lookup z = mapOf l z := by
  subst h
  intro z
  induction b with
  | nil => rfl
  | cons p b ih =>
    unfold mapOf
    rw [List.map_cons, List.lookup_cons, List.lookup_cons]
    cases (z == p.1) with
    | true => rfl
    | false => exact ih
theorem upd_none {m : Str → Option Value} {x z : Str} {v : Option Value} (h : z ≠ x) (hm : m z = none) : (if z = x then v else m z) = none := by rw [if_neg h]; exact hm
section
variable {w : World} {mean : ExcName → Option Value} {mg mb : Str → Option Value} {A : Around} {s : Shared} {Q E : Value → Shared → Prop}
  {name qual : Str} {params : Arguments} {body : List Stmt} {scope : Scope} {dV kV doc pm cdv ct oc : Value} {an od : Option Addr} {osl : Array (Option Value)} {f : Addr} {args : List Value} {binds : List (Str × Value)}
theorem enter (X : (hd.heap_1 w.params).In s.heap) (T : Top qv LO mean mg mb s.heap) (hroom : A.depth < recursionLimit)
    (ho : (hd.heap_1 w.params).lookup f = some ⟨oc, od, .func (fnOf name qual params body scope dV kV doc pm an cdv ct), osl⟩) (hcd : codeIn (hd.heap_1 w.params) cdv qual = true)
    (l : List (Str × Option Value)) (hbind : BindsTo s (fnOf name qual params body scope dV kV doc pm an cdv ct) ⟨args, []⟩ binds) (hbl : binds.reverse.map (fun p => (p.1, some p.2)) = l) (hloc : ∀ y ∈ binds, scope.names.lookup y.1 = some .local)
    (hcell : ∀ x ∈ scope.names, x.2 ≠ .cell) (hco : scope.isCoroutine = false) (hgen : scope.isGenerator = false) (hk : scope.kind = .function)
    (h : ∀ L h₁ tk, Fr s.heap L h₁ (mapOf l) → News s.heap L h₁ [] →
      wpAny (model PySem.Challenge.rw_rw0080_01.row.prog w) (A.deeper (envOf qual scope L f cdv)) (execs body (envOf qual scope L f cdv)) (fun fl s' => Q (match fl with | .ret v => v | _ => .none) s') (fun _ _ => False) { s with heap := h₁, toks := tk }) :
    wpAny (model PySem.Challenge.rw_rw0080_01.row.prog w) A (call (.ref f) args) Q E s := by
  refine wpAny_call ?_
  refine codeAny_call_def (fd := fnOf name qual params body scope dV kV doc pm an cdv ct) (body := body) (binds := binds) hroom (X _ _ ho) rfl T.nolimit (codeRec_of X hcd) rfl hbind hcell hloc (fun h₁ hns hk₁ => ?_) hco hgen hk
  refine wpAny_mono (h s.heap.objs.size h₁ _ (Fr.congr ⟨hns, hk₁, Nat.le_refl _⟩ (lookup_mapOf hbl)) News.nil) (fun fl s' hq => hq) (fun _ _ e => e.elim)
theorem enterC (X : (hd.heap_1 w.params).In s.heap) (T : Top qv LO mean mg mb s.heap) (hroom : A.depth < recursionLimit)
    (ho : (hd.heap_1 w.params).lookup f = some ⟨oc, od, .func (fnOf name qual params body scope dV kV doc pm an cdv ct), osl⟩) (hcd : codeIn (hd.heap_1 w.params) cdv qual = true)
    (hbind : BindsTo s (fnOf name qual params body scope dV kV doc pm an cdv ct) ⟨args, []⟩ binds)
    (hkind : (binds.all fun y => scope.names.lookup y.1 == some .local || scope.names.lookup y.1 == some .cell) = true)
    (hnd : ((cellsFrom 0 scope.names []).map (·.1)).Nodup) (hco : scope.isCoroutine = false) (hgen : scope.isGenerator = false) (hk : scope.kind = .function)
    (h : ∀ L h₁ tk cells, Fr s.heap L h₁ (bindL (envOfC qual scope L f cdv).kindOf binds fun _ => none) → News s.heap L h₁ cells →
      CellsAre (bindC (envOfC qual scope L f cdv).kindOf binds fun _ => none) (cellsFrom (L + 1) scope.names []) cells →
      wpAny (model PySem.Challenge.rw_rw0080_01.row.prog w) (A.deeper (envOfC qual scope L f cdv)) (execs body (envOfC qual scope L f cdv)) (fun fl s' => Q (match fl with | .ret v => v | _ => .none) s') (fun _ _ => False) { s with heap := h₁, toks := tk }) :
    wpAny (model PySem.Challenge.rw_rw0080_01.row.prog w) A (call (.ref f) args) Q E s := by
  refine wpAny_call ?_
  refine codeAny_call_function (fd := fnOf name qual params body scope dV kV doc pm an cdv ct) hroom (X _ _ ho) rfl hco hgen rfl (codeRec_of X hcd) (hbind _ _ _ _ ?_)
  refine wpAny_newFunctionEnv_cells hk (kindsX hkind _) fun env' he s' x => ?_
  subst he
  refine ⟨T.nolimit.keeps x.toInCall.keep, codeAny_func ?_⟩
  obtain ⟨h₁, tk, rfl, _⟩ := x.done
  have hk₁ := x.toInCall.keep
  obtain ⟨cells, NC, Y⟩ := Cl.news (h₀ := s.heap) (Nat.le_refl _) fun n c hm => ⟨x.cell n c (lookup_of_mem_nodup (cellsFrom_names scope.names 0 (s.heap.objs.size + 1) [] [] rfl ▸ hnd) hm), x.above n c hm⟩
  refine wpAny_mono (h s.heap.objs.size h₁ tk cells ⟨x.toInCall.ns, hk₁, Nat.le_refl _⟩ (fun p hp => ⟨(NC p hp).1, (NC p hp).2.1, (NC p hp).2.2⟩) Y) (fun fl s' hq => hq) (fun _ _ e => e.elim)
end
end
section
theorem news_add {h₀ h h' : Heap} {L D : Addr} {o : Obj} {m : Str → Option Value} {news : List (Addr × Obj)} (F : Fr h₀ L h m) (N : News h₀ L h news) (kp : Kp h h') (h0 : h.get? D = none) (h1 : h'.get? D = some o) : News h₀ L h' ((D, o) :: news) := by
  intro p hp
  rcases List.mem_cons.mp hp with rfl | hp
  · refine ⟨h1, ?_, ?_⟩
    · rintro rfl
      obtain ⟨oL, _, _, hL, _⟩ := F.ns
      rw [h0] at hL; cases hL
    · cases q : h₀.get? D with
      | none => rfl
      | some o' => have := F.keep _ _ q; rw [h0] at this; cases this
  · exact N.grown kp p hp
theorem ints_at {vs : List Value} {ns : List Int} (h : IntsAre vs ns) {i : Nat} {v : Value} (e : vs[i]? = some v) : ∃ k t, ns[i]? = some k ∧ v = .int k t := by
  obtain ⟨k, t, e1, e2⟩ := IntsAre.at h i v e
  exact ⟨k, t, e2, e1⟩
/-- a mark at which the walk stops -/
noncomputable def Brk (P : Prop) : Prop := P
theorem Brk.go {P : Prop} (h : Brk P) : P := h
theorem Brk.mk {P : Prop} (h : P) : Brk P := h
noncomputable def TurnEnd (h₀ : Heap) (L : Addr) (s : Shared) (I : Addr) (oI : Obj) (S : List (Addr × Obj) → Prop) (J : (Str → Option Value) → List (Addr × Obj) → Array GenState → Prop) (Q : Flow → Shared → Prop) (f : Flow) (s' : Shared) : Prop :=
  match f with
  | .brk => Q .next s'
  | .ret v => Q (.ret v) s'
  | _ => ∃ h' tk' gs' m' news', s' = { s with heap := h', toks := tk', gens := gs' } ∧ Fr h₀ L h' m' ∧ News h₀ L h' ((I, oI) :: news') ∧ (∀ p ∈ news', p.1 ≠ I) ∧ S news' ∧ J m' news' gs'
theorem turn_next {h₀ : Heap} {L : Addr} {s : Shared} {I : Addr} {oI : Obj} {S : List (Addr × Obj) → Prop} {J : (Str → Option Value) → List (Addr × Obj) → Array GenState → Prop} {Q : Flow → Shared → Prop} {h' : Heap} {tk' : Nat} {gs' : Array GenState}
    {m m' : Str → Option Value} {news' all : List (Addr × Obj)} (F : Fr h₀ L h' m) (N : News h₀ L h' all) (hm : ∀ z, m z = m' z) (sub : ∀ p ∈ (I, oI) :: news', p ∈ all) (off : ∀ p ∈ news', p.1 ≠ I) (hS : S news') (hJ : J m' news' gs') :
    TurnEnd h₀ L s I oI S J Q .next { s with heap := h', toks := tk', gens := gs' } := ⟨h', tk', gs', m', news', rfl, Fr.congr F hm, fun p hp => N p (sub p hp), off, hS, hJ⟩
theorem strsAre_values : ∀ {vs : List Value} {ts : List Str}, StrsAre vs ts → ∃ l, vs = strValues l ∧ l.map (·.1) = ts
  | _, _, .nil => ⟨[], rfl, rfl⟩
  | _, _, .cons y t h => by
    obtain ⟨l, rfl, rfl⟩ := strsAre_values h
    exact ⟨(y, t) :: l, rfl, rfl⟩
theorem strs_snoc {x : Str} {t : Tok} : ∀ {vs : List Value} {ts : List Str}, StrsAre vs ts → StrsAre (vs ++ [.str x t]) (ts ++ [x])
  | _, _, .nil => .cons x t .nil
  | _, _, .cons y u h => .cons y u (strs_snoc h)
theorem sum_le_mul {B : Nat} : ∀ {l : List Nat}, (∀ x ∈ l, x ≤ B) → l.sum ≤ l.length * B
  | [], _ => by simp
  | x :: l, h => by
    have h1 := h x (List.mem_cons_self ..)
    have h2 := sum_le_mul fun y hy => h y (List.mem_cons_of_mem _ hy)
    rw [List.sum_cons, List.length_cons, Nat.succ_mul]; omega
theorem joinOk_bd {sep : Str} {ys : List Str} (B : Nat) (h : ∀ x ∈ ys, x.length ≤ B) (hn : ys.length * B + ys.length ≤ 1048576) (hs : sep.length ≤ 16) : JoinOk sep ys = true := by
  refine joinOk_of_weight ?_ hs
  have := sum_le_mul (l := ys.map (·.length)) (B := B) fun x hx => by
    obtain ⟨y, hy, rfl⟩ := List.mem_map.mp hx
    exact h y hy
  rw [List.length_map] at this
  omega
theorem join_strs {prog : Program} {w : World} {A : Around} {E : Value → Shared → Prop} {s : Shared} {x : Str} {t : Tok} {Q : Value → Shared → Prop} {D : Addr} {vs : List Value} {texts : List Str}
    (hl : s.heap.IsList D vs.toArray) (hv : StrsAre vs texts) (hok : JoinOk x texts = true)
    (hq : ∀ t' k, Q (.str (Txt.join x texts) t') { s with toks := k }) : wpAny (model prog w) A (call (.builtin "str.join") [.str x t, .ref D]) Q E s := by
  obtain ⟨l, rfl, ht⟩ := strsAre_values hv
  exact SC.join hl ht hok hq
section
variable {prog : Program} {w : World} {A : Around} {s : Shared} {h₀ : Heap} {L : Addr} {env : Env} {m : Str → Option Value} {news : List (Addr × Obj)}
theorem for_W {x : Str} {px : Pos} {body orelse : List Stmt} {I : Addr} {fp : List Addr} {n : Nat} {P : Nat → Value → Prop} {St : Nat → Heap → Prop} {S : List (Addr × Obj) → Prop} {R : Result → Shared → Prop}
    (J : Nat → (Str → Option Value) → List (Addr × Obj) → Array GenState → Prop)
    (hx : env.kindOf x = some .local) (hp : (env.scope.kind == .class || (env.scope.kind == .module && env.locals != env.globals)) = false) (hL : env.locals = L)
    (W : Walks prog w A I fp [I] n P St) (hIo : ∀ i h, St i h → ∃ o, h.get? I = some o)
    (hSt : ∀ i h h' o nw, St i h → h.get? I = some o → h'.get? I = some o → (∀ b o, h₀.get? b = some o → h'.get? b = some o) → News h₀ L h' nw → S nw → St i h')
    (hLfp : L ∉ fp)
    (F : Fr h₀ L s.heap m) (N : News h₀ L s.heap news) (hIL : L ≠ I) (hI₀ : h₀.get? I = none) (off : ∀ p ∈ news, p.1 ≠ I) (hS : S news) (hst : St 0 s.heap) (hj : J 0 m news s.gens)
    (turn : ∀ i v m news h tk gs oI, i < n → P i v → J i m news gs → Fr h₀ L h (fun y => if y = x then some v else m y) → News h₀ L h ((I, oI) :: news) → (∀ p ∈ news, p.1 ≠ I) → S news →
      wpAny (model prog w) A (execs body env) (TurnEnd h₀ L s I oI S (J (i + 1)) fun f s' => R (.ok f) s') (fun _ _ => False) { s with heap := h, toks := tk, gens := gs })
    (done : ∀ m news h tk gs, J n m news gs → Fr h₀ L h m → News h₀ L h news → (∀ p ∈ news, p.1 ≠ I) → wpAny (model prog w) A (execs orelse env) (fun f s' => R (.ok f) s') (fun _ _ => False) { s with heap := h, toks := tk, gens := gs }) :
    codeAny (model prog w) A (.forLoop (.Name x px) (.ref I) body orelse env) R s := by
  subst hL
  refine codeAny_forLoop_any (fun k s' => ∃ h' tk gs i m' news', s' = { s with heap := h', toks := tk, gens := gs } ∧ i ≤ n ∧ k = n + 1 - i ∧ St i h' ∧ Fr h₀ env.locals h' m' ∧ News h₀ env.locals h' news' ∧ (∀ p ∈ news', p.1 ≠ I) ∧ S news' ∧ J i m' news' gs) ?_ (n + 1)
    ⟨s.heap, s.toks, s.gens, 0, m, news, rfl, Nat.zero_le _, rfl, hst, F, N, off, hS, hj⟩
  rintro k s' ⟨h', tk, gs, i, m', news', rfl, hi, rfl, hst', F', N', off', hS', hj'⟩
  by_cases hlt : i < n
  · refine W.item i _ _ _ hlt hst' fun v h₂ tk₂ hPv hst₂ hk₂ => ?_
    have F₂ : Fr h₀ env.locals h₂ m' := LCg.fr_but F' hk₂ hIL hI₀
    have N₂ : News h₀ env.locals h₂ news' := LCg.news_but N' hk₂ off'
    show wpAny _ A (pure ()) _ _ _
    refine wpAny_pure ?_
    refine wpAny_assign_Name (wpAny_storeName_local hx F₂.ns (fun h₃ hn₃ hs₃ => ?_) hp)
    obtain ⟨oI, heI⟩ := hIo _ _ hst₂
    have F₃ := F₂.set hn₃ hs₃
    have N₃ := N₂.set hs₃
    have heI₃ : h₃.get? I = some oI := hs₃.extBut _ _ (Ne.symm hIL) heI
    refine wpAny_mono (turn i v m' news' h₃ _ _ oI hlt hPv hj' F₃ (fun p hp => ?_) off' hS') (fun f s₄ h₄ => ?_) fun _ _ e => e.elim
    · rcases List.mem_cons.mp hp with rfl | hp
      · exact ⟨heI₃, Ne.symm hIL, hI₀⟩
      · exact N₃ p hp
    · have fin : (∃ h' tk' gs' m' news', s₄ = { s with heap := h', toks := tk', gens := gs' } ∧ Fr h₀ env.locals h' m' ∧ News h₀ env.locals h' ((I, oI) :: news') ∧ (∀ p ∈ news', p.1 ≠ I) ∧ S news' ∧ J (i + 1) m' news' gs') →
          ∃ k', k' < n + 1 - i ∧ (∃ h' tk gs i m' news', s₄ = { s with heap := h', toks := tk, gens := gs } ∧ i ≤ n ∧ k' = n + 1 - i ∧ St i h' ∧ Fr h₀ env.locals h' m' ∧ News h₀ env.locals h' news' ∧ (∀ p ∈ news', p.1 ≠ I) ∧ S news' ∧ J i m' news' gs) := by
        rintro ⟨h₅, tk₅, gs₅, m₅, news₅, rfl, F₅, N₅, off₅, hS₅, hj₅⟩
        have N₅' : News h₀ env.locals h₅ news₅ := fun p hp => N₅ p (List.mem_cons_of_mem _ hp)
        have hst₃ : St (i + 1) h₃ := W.frame _ _ _ hst₂ fun b hb o e => hs₃.extBut b o (fun q => hLfp (q ▸ hb)) e
        exact ⟨n + 1 - (i + 1), by omega, h₅, tk₅, gs₅, i + 1, m₅, news₅, rfl, hlt, rfl, hSt _ _ _ _ _ hst₃ heI₃ (N₅ _ (List.Mem.head _)).1 F₅.keep N₅' hS₅, F₅, N₅', off₅, hS₅, hj₅⟩
      cases f with
      | next => exact fin h₄
      | cont => exact fin h₄
      | brk => exact h₄
      | ret v => exact h₄
  · obtain rfl : i = n := Nat.le_antisymm hi (Nat.not_lt.mp hlt)
    refine W.done _ _ _ hst' fun h₂ tk₂ hk₂ => ?_
    have F₂ : Fr h₀ env.locals h₂ m' := LCg.fr_but F' hk₂ hIL hI₀
    have N₂ : News h₀ env.locals h₂ news' := LCg.news_but N' hk₂ off'
    exact wpAny_mono (done m' news' h₂ _ _ hj' F₂ N₂ off') (fun _ _ q => q) fun _ _ e => e.elim
theorem while_inv {test : Expr} {body orelse : List Stmt} {R : Result → Shared → Prop} (I : Nat → Shared → Prop)
    (turn : ∀ n s, I n s → wpAny (model prog w) A (isTrue test env (eval test env)) (fun b s₂ =>
        if b = true then wpAny (model prog w) A (execs body env) (fun f s₃ => match f with
            | .brk => R (.ok .next) s₃
            | .ret v => R (.ok (.ret v)) s₃
            | _ => ∃ m, m < n ∧ I m s₃) (fun _ _ => False) s₂
        else wpAny (model prog w) A (execs orelse env) (fun f s₃ => R (.ok f) s₃) (fun _ _ => False) s₂) (fun _ _ => False) s)
    (n : Nat) (h : I n s) : codeAny (model prog w) A (.whileLoop test body orelse env) R s := by
  refine codeAny_whileLoop I (fun n s hI => wpAny_mono (turn n s hI) (fun b s₂ hb => ?_) fun _ _ e => e.elim) n h
  cases b with
  | true =>
    rw [if_pos rfl] at hb ⊢
    refine wpAny_mono hb (fun f s₃ hf => ?_) fun _ _ e => e.elim
    cases f <;> exact hf
  | false =>
    rw [if_neg Bool.false_ne_true] at hb ⊢
    exact wpAny_mono hb (fun _ _ q => q) fun _ _ e => e.elim
theorem for_range {x : Str} {px : Pos} {body orelse : List Stmt} {R : Result → Shared → Prop} {E : Value → Shared → Prop} {r : Addr} {a b : Int} {t u v : Tok} {n : Nat}
    (J : Nat → (Str → Option Value) → List (Addr × Obj) → Array GenState → Prop)
    (hx : env.kindOf x = some .local) (hp : (env.scope.kind == .class || (env.scope.kind == .module && env.locals != env.globals)) = false) (hL : env.locals = L)
    (hh : A.handled = none) (hr : IsRange s.heap r a b 1 t u v) (hsm : Builtin.Range.small a b 1 = true) (hn : (b - a).toNat = n)
    (F : Fr h₀ L s.heap m) (N : News h₀ L s.heap news) (hj : J 0 m news s.gens)
    (turn : ∀ (i : Nat) t m news h tk gs (I : Addr) oI, i < n → J i m news gs → Fr h₀ L h (fun y => if y = x then some (.int (a + (i : Int)) t) else m y) → News h₀ L h ((I, oI) :: news) → (∀ p ∈ news, p.1 ≠ I) →
      wpAny (model prog w) A (execs body env) (TurnEnd h₀ L s I oI (fun _ => True) (J (i + 1)) fun f s' => R (.ok f) s') (fun _ _ => False) { s with heap := h, toks := tk, gens := gs })
    (done : ∀ m news h tk gs, J n m news gs → Fr h₀ L h m → News h₀ L h news → wpAny (model prog w) A (execs orelse env) (fun f s' => R (.ok f) s') (fun _ _ => False) { s with heap := h, toks := tk, gens := gs }) :
    wpAny (model prog w) A (pyIter (.ref r)) (fun it s₂ => codeAny (model prog w) A (.forLoop (.Name x px) it body orelse env) R s₂) E s := by
  refine wpAny_pyIter_range hr hsm ?_
  have hn' : Builtin.Range.rangeSize a b 1 = (n : Int) := by rw [rangeSize_nat, hn]
  refine for_W J hx hp hL (LCg.range_walks hh a n) (fun i h st => ⟨_, st⟩) LCg.range_st ?_
    (F.keeps fun _ _ e => Heap.get?_push_of_some _ e) (N.grown fun _ _ e => Heap.get?_push_of_some _ e) (Nat.ne_of_lt F.ns.lt) (next_is_new F) (fun p hp => Nat.ne_of_lt (Heap.lt_size (N p hp).1)) trivial
    (by show IsRangeIter _ _ _ _ _; rw [hn']; simpa using Heap.get?_push_size _ rfl) hj ?_ ?_
  · exact fun hm => Nat.ne_of_lt F.ns.lt (List.mem_singleton.mp hm)
  · rintro i v m' news' h tk gs oI hi ⟨t', rfl⟩ hj' F' N' off' _
    exact turn i t' m' news' h tk gs _ oI hi hj' F' N' off'
  · intro m' news' h tk gs hj' F' N' off'
    exact done m' news' h tk gs hj' F' N'
theorem for_list {x : Str} {px : Pos} {body orelse : List Stmt} {R : Result → Shared → Prop} {E : Value → Shared → Prop} {l : Addr} {its : Array Value}
    (J : Nat → (Str → Option Value) → List (Addr × Obj) → Array GenState → Prop)
    (hx : env.kindOf x = some .local) (hp : (env.scope.kind == .class || (env.scope.kind == .module && env.locals != env.globals)) = false) (hL : env.locals = L)
    (hh : A.handled = none) (F : Fr h₀ L s.heap m) (N : News h₀ L s.heap news) (hS : LCg.SrcAt h₀ l its news) (hlL : l ≠ L) (hj : J 0 m news s.gens)
    (turn : ∀ (i : Nat) v m news h tk gs (I : Addr) oI, its[i]? = some v → J i m news gs → Fr h₀ L h (fun y => if y = x then some v else m y) → News h₀ L h ((I, oI) :: news) → (∀ p ∈ news, p.1 ≠ I) → LCg.SrcAt h₀ l its news →
      wpAny (model prog w) A (execs body env) (TurnEnd h₀ L s I oI (LCg.SrcAt h₀ l its) (J (i + 1)) fun f s' => R (.ok f) s') (fun _ _ => False) { s with heap := h, toks := tk, gens := gs })
    (done : ∀ m news h tk gs, J its.size m news gs → Fr h₀ L h m → News h₀ L h news → wpAny (model prog w) A (execs orelse env) (fun f s' => R (.ok f) s') (fun _ _ => False) { s with heap := h, toks := tk, gens := gs }) :
    wpAny (model prog w) A (pyIter (.ref l)) (fun it s₂ => codeAny (model prog w) A (.forLoop (.Name x px) it body orelse env) R s₂) E s := by
  have hl := hS.list F.keep N
  have hlt : l < s.heap.objs.size := by obtain ⟨_, e, _⟩ := hl; exact Heap.lt_size e
  refine wpAny_pyIter_list hl ?_
  have up : ∀ b o, s.heap.get? b = some o → (s.heap.push { cls := .type "list_iterator", data := .fields #[.ref l, .int 0 0] }).get? b = some o := fun b o e => Heap.get?_push_of_some _ e
  refine for_W J hx hp hL (Walks.list hh s.heap.objs.size l (Nat.ne_of_lt hlt) its) (fun i h st => by obtain ⟨o, e, _⟩ := st.1; exact ⟨o, e⟩) LCg.list_st ?_
    (F.keeps up) (N.grown up) (Nat.ne_of_lt F.ns.lt) (next_is_new F) (fun p hp => Nat.ne_of_lt (Heap.lt_size (N p hp).1)) hS
    ⟨⟨_, Heap.get?_push_size _ rfl, rfl, rfl⟩, hl.push _⟩ hj ?_ ?_
  · intro hm
    rcases List.mem_cons.mp hm with e | hm
    · exact Nat.ne_of_lt F.ns.lt e
    · exact hlL (List.mem_singleton.mp hm).symm
  · intro i v m' news' h tk gs oI hi hP hj' F' N' off' hS'
    exact turn i v m' news' h tk gs _ oI hP hj' F' N' off' hS'
  · intro m' news' h tk gs hj' F' N' off'
    exact done m' news' h tk gs hj' F' N'
end
end
section
open PySem.StrLaws Builtin Builtin.Str
noncomputable def sepCS : Str := ⟨#[44, 32]⟩
theorem at_iff (x : Str) (k : Nat) : At x sepCS x.length k ↔ (x.cps.toList.drop k).take 2 = [44, 32] := by
  unfold At
  rw [subAt_eq]
  constructor
  · rintro ⟨_, h⟩
    simpa [sepCS, Str.length] using h
  · intro h
    refine ⟨?_, by simpa [sepCS, Str.length] using h⟩
    have := congrArg List.length h
    simp [Str.length, sepCS] at this ⊢
    omega
theorem at_comma {x : Str} {k : Nat} (h : At x sepCS x.length k) : (x.cps.toList.drop k)[0]? = some 44 := by
  rw [at_iff] at h
  generalize x.cps.toList.drop k = l at h
  match l, h with
  | a :: l', h => simp at h; simp [h.1]
theorem no_at_in {x : Str} {a k : Nat} {w r : List Nat} (hd : x.cps.toList.drop a = w ++ r) (hw : 44 ∉ w) (h1 : a ≤ k) (h2 : k < a + w.length) : ¬ At x sepCS x.length k := by
  intro h
  have hc := at_comma h
  obtain ⟨j, rfl⟩ : ∃ j, k = a + j := ⟨k - a, by omega⟩
  rw [← List.drop_drop, hd, List.getElem?_drop, Nat.add_zero, List.getElem?_append_left (by omega)] at hc
  exact hw (List.mem_of_getElem? hc)
theorem join_cps (w w2 : Str) (r : List Str) : (Str.join sepCS (w :: w2 :: r)).cps.toList = w.cps.toList ++ ([44, 32] ++ (Str.join sepCS (w2 :: r)).cps.toList) := by
  show (w ++ sepCS ++ Str.join sepCS (w2 :: r)).cps.toList = _
  simp [Str.cps_append, sepCS]
theorem str_of_toList {x y : Str} (h : x.cps.toList = y.cps.toList) : x = y := Str.ext' (Array.toList_inj.mp h)
theorem parts_of (x : Str) : ∀ (ws : List Str), ws ≠ [] → ∀ (a : Nat) (cuts : List Nat) (f : Nat), x.cps.toList.drop a = (Str.join sepCS ws).cps.toList → (∀ w ∈ ws, 44 ∉ w.cps.toList) →
    ChainG x sepCS x.length a cuts f → (∀ k, f ≤ k → ¬ At x sepCS x.length k) → partsFrom x sepCS.length a cuts = ws
  | [], h, _, _, _, _, _, _, _ => absurd rfl h
  | [w], _, a, cuts, f, hd, hw, hG, hn => by
    have hd' : x.cps.toList.drop a = w.cps.toList ++ [] := by rw [hd, List.append_nil]; rfl
    have hw' := hw w (List.mem_cons_self ..)
    have hlen : x.cps.toList.length - a = w.cps.toList.length := by rw [← List.length_drop, hd']; simp
    cases cuts with
    | nil =>
      show [strSub x a x.length] = [w]
      congr 1
      apply str_of_toList
      rw [strSub_toList, hd', List.append_nil]
      exact List.take_of_length_le (by simp [Str.length] at hlen ⊢; omega)
    | cons c r =>
      obtain ⟨hac, hA, -, -⟩ := hG
      have hb := hA.1
      exact absurd hA (no_at_in hd' hw' hac (by simp [Str.length, sepCS] at hb hlen ⊢; omega))
  | w :: w2 :: rest, _, a, cuts, f, hd, hw, hG, hn => by
    have hw' := hw w (List.mem_cons_self ..)
    rw [join_cps] at hd
    have hAt : At x sepCS x.length (a + w.cps.toList.length) := by
      rw [at_iff, ← List.drop_drop, hd, List.drop_left]; rfl
    cases cuts with
    | nil =>
      have e : f = a := hG
      exact absurd hAt (hn _ (by omega))
    | cons c r =>
      obtain ⟨hac, hA, hno, hr⟩ := hG
      have hc : c = a + w.cps.toList.length := by
        rcases Nat.lt_trichotomy c (a + w.cps.toList.length) with h | h | h
        · exact absurd hA (no_at_in hd hw' hac h)
        · exact h
        · exact absurd hAt (hno _ (by omega) h)
      show strSub x a c :: partsFrom x sepCS.length (c + sepCS.length) r = _
      congr 1
      · apply str_of_toList
        rw [strSub_toList, hd, hc]
        rw [show a + w.cps.toList.length - a = w.cps.toList.length by omega]
        exact List.take_left
      · refine parts_of x (w2 :: rest) (by simp) _ r f ?_ (fun v hv => hw v (List.mem_cons_of_mem _ hv)) hr hn
        rw [hc, Nat.add_assoc, ← List.drop_drop, hd]
        show List.drop (w.cps.toList.length + 2) _ = _
        rw [← List.drop_drop, List.drop_left]; rfl
theorem comma_at {x : Str} {ws : List Str} (h : x = Str.join sepCS ws) (hne : 2 ≤ ws.length) : ∃ k, At x sepCS x.length k := by
  match ws, hne with
  | w :: w2 :: r, _ =>
    refine ⟨w.cps.toList.length, ?_⟩
    rw [at_iff, h, join_cps, List.drop_left]; rfl
theorem split_join {ws : List Str} (hne : ws ≠ []) (hw : ∀ w ∈ ws, 44 ∉ w.cps.toList) (h2 : (Str.join sepCS ws).length ≥ 2) : Txt.split (Str.join sepCS ws) sepCS = ws := by
  obtain ⟨f, hG, hn⟩ := occ_tight (Str.join sepCS ws) sepCS (by decide)
  have key := parts_of (Str.join sepCS ws) ws hne 0 _ f rfl hw hG hn
  have hk : ¬ Builtin.Str.strKind (Str.join sepCS ws) < Builtin.Str.strKind sepCS := by
    have h1 : Builtin.Str.strKind sepCS = 1 := by decide +kernel
    have h2 : 1 ≤ Builtin.Str.strKind (Str.join sepCS ws) := by
      unfold Builtin.Str.strKind
      split
      · exact Nat.le_refl _
      · split <;> decide
    omega
  unfold Txt.split
  rw [if_neg]
  · split
    · rename_i he
      rw [List.isEmpty_iff.mp he] at key
      rw [← key]
      show [_] = [strSub _ 0 _]
      rw [key, sub_whole]
    · rw [partsBetween_eq]; exact key
  · rw [Bool.or_eq_true, decide_eq_true_eq, decide_eq_true_eq]
    rintro (h | h)
    · have : sepCS.length = 2 := rfl
      omega
    · exact hk h
end
section
theorem add2_testBit {m x : Nat} (h : m.testBit x = false) (q : Nat) : (2 ^ x + m).testBit q = (decide (q = x) || m.testBit q) := by
  rcases Nat.lt_trichotomy q x with hq | hq | hq
  · rw [Nat.testBit_two_pow_add_gt hq]
    have : ¬ q = x := by omega
    simp [this]
  · subst hq
    rw [Nat.testBit_two_pow_add_eq, h]; simp
  · have hne : ¬ q = x := by omega
    obtain ⟨d, rfl⟩ : ∃ d, q = x + 1 + d := ⟨q - x - 1, by omega⟩
    have e : (2 ^ x + m) / 2 ^ (x + 1) = m / 2 ^ (x + 1) := by
      have hp := Nat.two_pow_pos x
      rw [Nat.pow_succ, ← Nat.div_div_eq_div_mul, ← Nat.div_div_eq_div_mul]
      have : (2 ^ x + m) / 2 ^ x = m / 2 ^ x + 1 := by
        rw [Nat.add_comm, Nat.add_div_right _ hp]
      rw [this]
      rw [Nat.testBit_eq_decide_div_mod_eq] at h
      simp at h
      omega
    rw [Nat.add_comm (x + 1) d, ← Nat.testBit_div_two_pow, e, Nat.testBit_div_two_pow]
    simp only [show ¬ d + (x + 1) = x by omega, decide_false, Bool.false_or]
theorem sub2 {r p : Nat} (h : r.testBit p = true) : 2 ^ p ≤ r ∧ (r - 2 ^ p).testBit p = false ∧ ∀ q, (r - 2 ^ p).testBit q = (!decide (q = p) && r.testBit q) := by
  have hle : 2 ^ p ≤ r := Nat.ge_two_pow_of_testBit h
  have h0 : (r - 2 ^ p).testBit p = false := by
    have e : r = 2 ^ p + (r - 2 ^ p) := by omega
    rw [e, Nat.testBit_two_pow_add_eq] at h
    simpa using h
  refine ⟨hle, h0, fun q => ?_⟩
  have e : r = 2 ^ p + (r - 2 ^ p) := by omega
  have k := add2_testBit h0 q
  rw [← e] at k
  rw [k]
  by_cases hq : q = p
  · subst hq; rw [h0]; simp
  · simp [hq]
noncomputable def mv (st r p : Nat) : Nat := r - 2 ^ p + 2 ^ (p - st)
theorem mv_bit {st r p : Nat} (h : r.testBit p = true) (_hs : st ≤ p) (_h0 : 0 < st) (hn : r.testBit (p - st) = false) (q : Nat) : (mv st r p).testBit q = (decide (q = p - st) || (!decide (q = p) && r.testBit q)) := by
  obtain ⟨_, _, k⟩ := sub2 h
  unfold mv
  rw [Nat.add_comm, add2_testBit, k]
  rw [k, hn]; simp
theorem mv_lt {st r p : Nat} (h : r.testBit p = true) (hs : st ≤ p) (h0 : 0 < st) : mv st r p < r := by
  have := (sub2 h).1
  have : 2 ^ (p - st) < 2 ^ p := Nat.pow_lt_pow_right (by decide) (by omega)
  unfold mv; omega
theorem countP_swap {l : List Nat} (hl : l.Nodup) {a b : Nat} (ha : a ∈ l) (hb : b ∈ l) (hab : a ≠ b) {P P' : Nat → Bool} (h1 : P a = true) (h2 : P b = false) (h3 : P' a = false) (h4 : P' b = true)
    (hr : ∀ q ∈ l, q ≠ a → q ≠ b → P q = P' q) : l.countP P = l.countP P' := by
  have p1 := List.perm_cons_erase ha
  have hb' : b ∈ l.erase a := (List.mem_erase_of_ne (Ne.symm hab)).mpr hb
  have p2 := List.perm_cons_erase hb'
  have p3 : l.Perm (a :: b :: (l.erase a).erase b) := p1.trans (p2.cons a)
  have hn := p3.nodup_iff.mp hl
  rw [p3.countP_eq, p3.countP_eq]
  simp only [List.countP_cons, h1, h2, h3, h4]
  have e : ((l.erase a).erase b).countP P = ((l.erase a).erase b).countP P' := by
    refine List.countP_congr fun q hq => ?_
    have hq1 : q ∈ l := List.mem_of_mem_erase (List.mem_of_mem_erase hq)
    have hqa : q ≠ a := by
      rintro rfl
      have := (List.nodup_cons.mp hn).1
      exact this (List.mem_cons_of_mem _ hq)
    have hqb : q ≠ b := by
      rintro rfl
      have := (List.nodup_cons.mp (List.nodup_cons.mp hn).2).1
      exact this hq
    rw [hr q hq1 hqa hqb]
  rw [e]; simp
noncomputable def cls (st c r : Nat) : Nat := (List.range 14).countP fun p => decide (p % st = c) && r.testBit p
theorem cls_mv {st r p : Nat} (h : r.testBit p = true) (hs : st ≤ p) (h0 : 0 < st) (hp : p < 14) (hn : r.testBit (p - st) = false) (c : Nat) : cls st c (mv st r p) = cls st c r := by
  have hm : (p - st) % st = p % st := by
    conv => rhs; rw [show p = p - st + st by omega]
    rw [Nat.add_mod_right]
  unfold cls
  by_cases hc : p % st = c
  · refine (countP_swap List.nodup_range (a := p) (b := p - st) (List.mem_range.mpr hp) (List.mem_range.mpr (by omega)) (by omega) ?_ ?_ ?_ ?_ ?_).symm
    · simp [hc, h]
    · simp [hn]
    · rw [mv_bit h hs h0 hn]; simp; omega
    · rw [mv_bit h hs h0 hn, hm, hc]; simp
    · intro q _ h1 h2
      rw [mv_bit h hs h0 hn]
      simp [h1, h2]
  · refine List.countP_congr fun q _ => ?_
    rw [mv_bit h hs h0 hn]
    by_cases h1 : q = p
    · subst h1; simp [hc]
    · by_cases h2 : q = p - st
      · subst h2; rw [hm]; simp [hc]
      · simp [h1, h2]
noncomputable def bitsL (fl : Nat) : List Nat := (List.range 14).filter fl.testBit
noncomputable def Stable (st r : Nat) : Prop := ∀ p, p < 14 → r.testBit p = true → st ≤ p → r.testBit (p - st) = true
structure PassInv (st r0 i r : Nat) (mo : Bool) : Prop where
  lt : r < 2 ^ 14
  later : ∀ p ∈ (bitsL r0).drop i, r.testBit p = true
  same : ∀ c, cls st c r = cls st c r0
  still : mo = false → r = r0 ∧ ∀ p ∈ (bitsL r0).take i, st ≤ p → r0.testBit (p - st) = true
  less : mo = true → r < r0
theorem bitsL_mem {r p : Nat} : p ∈ bitsL r ↔ p < 14 ∧ r.testBit p = true := by
  unfold bitsL; rw [List.mem_filter, List.mem_range]
theorem bitsL_nodup (r : Nat) : (bitsL r).Nodup := List.nodup_range.sublist List.filter_sublist
theorem pass_start {st r : Nat} (h : r < 2 ^ 14) : PassInv st r 0 r false :=
  ⟨h, fun p hp => (bitsL_mem.mp (by simpa using hp)).2, fun _ => rfl, fun _ => ⟨rfl, fun p hp => by simp at hp⟩, (fun h => by cases h)⟩
theorem drop_get {l : List Nat} {i p : Nat} (h : l[i]? = some p) : l.drop i = p :: l.drop (i + 1) := by
  obtain ⟨hi, e⟩ := List.getElem?_eq_some_iff.mp h
  rw [List.drop_eq_getElem_cons hi, e]
theorem take_get {l : List Nat} {i p : Nat} (h : l[i]? = some p) : l.take (i + 1) = l.take i ++ [p] := by
  rw [List.take_add_one, h]; rfl
theorem pass_move {st r0 i r p : Nat} {mo : Bool} (H : PassInv st r0 i r mo) (h0 : 0 < st) (hp : (bitsL r0)[i]? = some p) (hs : st ≤ p) (hn : r.testBit (p - st) = false) : PassInv st r0 (i + 1) (mv st r p) true := by
  have hpl : p < 14 := (bitsL_mem.mp (List.mem_of_getElem? hp)).1
  have hb : r.testBit p = true := H.later p (by rw [drop_get hp]; exact List.mem_cons_self ..)
  have hlt := mv_lt hb hs h0
  refine ⟨Nat.lt_trans hlt H.lt, fun q hq => ?_, fun c => (cls_mv hb hs h0 hpl hn c).trans (H.same c), (fun h => by cases h), fun _ => ?_⟩
  · have hq' : r.testBit q = true := H.later q (by rw [drop_get hp]; exact List.mem_cons_of_mem _ hq)
    have hqp : q ≠ p := by
      rintro rfl
      have hn2 : ((bitsL r0).drop i).Nodup := List.Nodup.sublist (List.drop_sublist ..) (bitsL_nodup r0)
      rw [drop_get hp] at hn2
      exact (List.nodup_cons.mp hn2).1 hq
    rw [mv_bit hb hs h0 hn, hq']
    simp [hqp]
  · cases mo with
    | true => exact Nat.lt_trans hlt (H.less rfl)
    | false => rw [← (H.still rfl).1]; exact hlt
theorem pass_keep {st r0 i r p : Nat} {mo : Bool} (H : PassInv st r0 i r mo) (hp : (bitsL r0)[i]? = some p) (hk : st ≤ p → r.testBit (p - st) = true) : PassInv st r0 (i + 1) r mo := by
  refine ⟨H.lt, fun q hq => H.later q (by rw [drop_get hp]; exact List.mem_cons_of_mem _ hq), H.same, fun h => ⟨(H.still h).1, fun q hq hsq => ?_⟩, H.less⟩
  rw [take_get hp, List.mem_append, List.mem_singleton] at hq
  rcases hq with hq | rfl
  · exact (H.still h).2 q hq hsq
  · rw [← (H.still h).1]; exact hk hsq
theorem pass_end {st r0 n r : Nat} (H : PassInv st r0 n r false) (hn : (bitsL r0).length ≤ n) : r = r0 ∧ Stable st r0 := by
  obtain ⟨e, h⟩ := H.still rfl
  refine ⟨e, fun p hp hb hs => h p ?_ hs⟩
  rw [List.take_of_length_le hn]
  exact bitsL_mem.mpr ⟨hp, hb⟩
/-- what sinking leaves -/
structure Sunk (st fl r : Nat) : Prop where
  lt : r < 2 ^ 14
  same : ∀ c, cls st c r = cls st c fl
  stable : Stable st r
end
local macro_rules | `(tactic| walk_at "MAP") => `(tactic| first | exact map_same _ | exact map_step (map_same _) | exact map_step (map_step (map_same _)) | exact map_step (map_step (map_step (map_same _))) | exact map_step (map_step (map_step (map_step (map_same _)))) | exact map_step (map_step (map_step (map_step (map_step (map_same _))))) | exact map_step (map_step (map_step (map_step (map_step (map_step (map_same _)))))) | (refine to_mapOf _ ?_ ?_; (repeat (first | exact List.forall_mem_nil _ | refine List.forall_mem_cons.mpr ⟨rfl, ?_⟩)); (intro z hz; simp only [List.map_cons, List.map_nil, List.mem_cons, List.not_mem_nil, or_false, not_or] at hz; (try simp only [hz, if_false]); first | rfl | exact mapOf_none (by simp [hz]) | simp [mapOf, hz, List.lookup])))
local macro_rules | `(tactic| walk_at "TurnEnd") => `(tactic| refine Brk.go ?_)
local macro_rules | `(tactic| walk_at "call builtin:sorted") => `(tactic| refine Brk.go ?_)
local macro_rules | `(tactic| walk_at "call builtin:str.join") => `(tactic| refine Brk.go ?_)
local macro_rules | `(tactic| walk_at "call ref") => `(tactic| refine Brk.go ?_)
local macro_rules | `(tactic| walk_at "callWith") => `(tactic| (first
  | (k_dflt (with_reducible refine callWith_method0 ?_))
  | ((k_dflt (with_reducible refine' PyProof.Rows.callWith_builtin1 ?_ ?h1 ?h2)); (case h1 => k_dflt (exact rfl)); (case h2 => k_dflt (exact rfl)))
  | ((k_dflt (with_reducible refine' PyProof.Rows.callWith_method1 ?_ ?h1 ?h2)); (case h1 => k_dflt (exact rfl)); (case h2 => k_dflt (exact rfl)))))
local macro_rules | `(tactic| walk_at "exec For Name Call cons cons") => `(tactic| (k_here; k_dflt (refine wpAny_For ?_ (by intro _; with_unfolding_all rfl))))
local macro_rules | `(tactic| walk_at "exec For Name Call cons nil") => `(tactic| (k_here; k_dflt (refine wpAny_For ?_ (by intro _; with_unfolding_all rfl))))
local macro_rules | `(tactic| walk_at "exec While Name cons nil") => `(tactic| (k_here; k_dflt (refine Brk.go ?_)))
local macro_rules | `(tactic| walk_at "pyIter ref") => `(tactic| refine Brk.go ?_)
section
noncomputable def rem (fl i : Nat) : Nat := fl / 2 ^ i * 2 ^ i
noncomputable def flagName (i : Nat) : Str := Str.ofString (["OPTIMIZED", "NEWLOCALS", "VARARGS", "VARKEYWORDS", "NESTED", "GENERATOR", "NOFREE", "COROUTINE", "ITERABLE_COROUTINE", "ASYNC_GENERATOR", "0x400", "0x800", "0x1000", "0x2000"].getD i "")
noncomputable def namesBelow (fl i : Nat) : List Str := ((List.range i).filter fl.testBit).map flagName
theorem two_pow_i (i : Nat) : (1 : Int) * 2 ^ (0 + (i : Int)).toNat = ((2 ^ i : Nat) : Int) := by
  rw [Int.one_mul, Int.zero_add, Int.toNat_natCast]; exact (kbt_cast i).symm
theorem rem_and (fl i : Nat) : Builtin.bitAnd ((rem fl i : Nat) : Int) (1 * 2 ^ (0 + (i : Int)).toNat) = ((fl / 2 ^ i % 2 * 2 ^ i : Nat) : Int) := by
  rw [two_pow_i, kbt_cast, kbt_bit, ← kbt_cast]
  have hp : 0 < 2 ^ i := Nat.two_pow_pos i
  have : ((rem fl i : Nat) : Int) / ((2 ^ i : Nat) : Int) = ((fl / 2 ^ i : Nat) : Int) := by
    rw [← Int.natCast_ediv]; unfold rem; rw [Nat.mul_div_cancel _ hp]
  rw [this]
  push_cast
  rfl
theorem rem_skip {fl i : Nat} (h : fl.testBit i = false) : rem fl i = rem fl (i + 1) := by
  have h2 : fl / 2 ^ i % 2 = 0 := by
    rw [Nat.testBit_eq_decide_div_mod_eq] at h
    have := Nat.mod_two_eq_zero_or_one (fl / 2 ^ i)
    simp at h; omega
  unfold rem
  rw [Nat.pow_succ, ← Nat.div_div_eq_div_mul, ← Nat.mul_assoc, Nat.mul_right_comm]
  congr 1
  omega
theorem rem_take {fl i : Nat} (h : fl.testBit i = true) : rem fl i = rem fl (i + 1) + 2 ^ i := by
  have h2 : fl / 2 ^ i % 2 = 1 := by
    rw [Nat.testBit_eq_decide_div_mod_eq] at h; simpa using h
  unfold rem
  rw [Nat.pow_succ, ← Nat.div_div_eq_div_mul, ← Nat.mul_assoc, Nat.mul_right_comm]
  have : fl / 2 ^ i = fl / 2 ^ i / 2 * 2 + 1 := by omega
  calc fl / 2 ^ i * 2 ^ i = (fl / 2 ^ i / 2 * 2 + 1) * 2 ^ i := by rw [← this]
    _ = _ := by rw [Nat.add_mul, Nat.one_mul]
theorem bit_of {fl i : Nat} (h : Builtin.bitAnd ((rem fl i : Nat) : Int) (1 * 2 ^ (0 + (i : Int)).toNat) ≠ 0) : fl.testBit i = true := by
  rw [rem_and] at h
  rw [Nat.testBit_eq_decide_div_mod_eq]
  simp only [decide_eq_true_eq]
  have := Nat.mod_two_eq_zero_or_one (fl / 2 ^ i)
  rcases this with e | e
  · rw [e] at h; simp at h
  · exact e
theorem nobit_of {fl i : Nat} (h : Builtin.bitAnd ((rem fl i : Nat) : Int) (1 * 2 ^ (0 + (i : Int)).toNat) = 0) : fl.testBit i = false := by
  rw [rem_and] at h
  rw [Nat.testBit_eq_decide_div_mod_eq]
  simp only [decide_eq_false_iff_not]
  intro e
  rw [e, Nat.one_mul] at h
  have := Nat.two_pow_pos i
  omega
theorem rem_xor {fl i : Nat} (h : fl.testBit i = true) : Builtin.bitXor ((rem fl i : Nat) : Int) (1 * 2 ^ (0 + (i : Int)).toNat) = ((rem fl (i + 1) : Nat) : Int) := by
  rw [bitXor_and, rem_and, two_pow_i]
  have h2 : fl / 2 ^ i % 2 = 1 := by
    rw [Nat.testBit_eq_decide_div_mod_eq] at h; simpa using h
  rw [h2, rem_take h]
  push_cast
  omega
theorem namesBelow_skip {fl i : Nat} (h : fl.testBit i = false) : namesBelow fl (i + 1) = namesBelow fl i := by
  unfold namesBelow; rw [List.range_succ, List.filter_append]; simp [h]
theorem namesBelow_take {fl i : Nat} (h : fl.testBit i = true) : namesBelow fl (i + 1) = namesBelow fl i ++ [flagName i] := by
  unfold namesBelow; rw [List.range_succ, List.filter_append]; simp [h]
theorem namesBelow_len (fl i : Nat) : (namesBelow fl i).length ≤ i := by
  unfold namesBelow; rw [List.length_map]; exact Nat.le_trans (List.length_filter_le _ _) (by rw [List.length_range]; exact Nat.le_refl _)
theorem i_lt {fl i : Nat} (hf : fl < 2 ^ 14) (h : fl.testBit i = true) : i < 14 := by
  refine Nat.lt_of_not_le fun hle => ?_
  have := Nat.testBit_lt_two_pow (Nat.lt_of_lt_of_le hf (Nat.pow_le_pow_right (by decide) hle))
  rw [h] at this; cases this
theorem rem_zero_names {fl i : Nat} (hi : i ≤ 14) (h : rem fl i = 0) : namesBelow fl i = namesBelow fl 14 := by
  have h0 : fl / 2 ^ i = 0 := by
    unfold rem at h
    rcases Nat.mul_eq_zero.mp h with h | h
    · exact h
    · exact absurd h (Nat.ne_of_gt (Nat.two_pow_pos i))
  have hlt : fl < 2 ^ i := by
    rcases Nat.div_eq_zero_iff.mp h0 with h | h
    · exact absurd h (Nat.ne_of_gt (Nat.two_pow_pos i))
    · exact h
  have key : ∀ d, namesBelow fl (i + d) = namesBelow fl i := by
    intro d
    induction d with
    | zero => rfl
    | succ d ih =>
      rw [← Nat.add_assoc, namesBelow_skip, ih]
      exact Nat.testBit_lt_two_pow (Nat.lt_of_lt_of_le hlt (Nat.pow_le_pow_right (by decide) (Nat.le_add_right _ _)))
  have e := key (14 - i)
  rw [show i + (14 - i) = 14 by omega] at e
  exact e.symm
theorem rem_0 (fl : Nat) : rem fl 0 = fl := by simp [rem]
theorem hor_skip {fl i : Nat} (hb : fl.testBit i = false) (h : i = 0 ∨ rem fl i ≠ 0 ∨ fl = 0) : i + 1 = 0 ∨ rem fl (i + 1) ≠ 0 ∨ fl = 0 := by
  rw [← rem_skip hb]
  rcases h with rfl | h | h
  · rw [rem_0]; omega
  · exact Or.inr (Or.inl h)
  · exact Or.inr (Or.inr h)
noncomputable def wordsOf (fl : Nat) : List Str := if fl = 0 then [Str.ofString "0x0"] else namesBelow fl 14
theorem flagName_len : ∀ i < 14, (flagName i).length ≤ 20 := by decide +kernel
theorem names_len {fl n : Nat} (hn : n ≤ 14) : ∀ x ∈ namesBelow fl n, x.length ≤ 20 := by
  intro x hx
  obtain ⟨i, hi, rfl⟩ := List.mem_map.mp hx
  exact flagName_len i (by have := List.mem_range.mp (List.mem_filter.mp hi).1; omega)
theorem joinOk_names (fl : Nat) : JoinOk (Str.ofString ", ") (namesBelow fl 14) = true :=
  joinOk_bd 20 (names_len (Nat.le_refl _)) (by have := namesBelow_len fl 14; omega) (by decide)
theorem hex_short : ∀ i < 14, (baseText "0x" 16 ((2 ^ i : Nat) : Int)).length ≤ 16 := by decide +kernel
noncomputable def flagTab : List (PyData × PyData) := [(.int 1, .str (Str.ofString "OPTIMIZED")), (.int 2, .str (Str.ofString "NEWLOCALS")), (.int 4, .str (Str.ofString "VARARGS")), (.int 8, .str (Str.ofString "VARKEYWORDS")), (.int 16, .str (Str.ofString "NESTED")), (.int 32, .str (Str.ofString "GENERATOR")), (.int 64, .str (Str.ofString "NOFREE")), (.int 128, .str (Str.ofString "COROUTINE")), (.int 256, .str (Str.ofString "ITERABLE_COROUTINE")), (.int 512, .str (Str.ofString "ASYNC_GENERATOR"))]
noncomputable def tabTest (i : Nat) : Bool := match (Spec.lookup (.int ((2 ^ i : Nat) : Int)) flagTab).getD (.str (baseText "0x" 16 ((2 ^ i : Nat) : Int))) with
  | .str x => decide (x = flagName i)
  | _ => false
theorem tabTest_ok : ∀ i < 14, tabTest i = true := by decide +kernel
theorem tab_hit {i : Nat} (hi : i < 14) : (Spec.lookup (.int ((2 ^ i : Nat) : Int)) flagTab).getD (.str (baseText "0x" 16 ((2 ^ i : Nat) : Int))) = .str (flagName i) := by
  have h := tabTest_ok i hi
  unfold tabTest at h
  split at h
  · rename_i x e
    rw [e, of_decide_eq_true h]
  · cases h
noncomputable def flagTabI : List (Int × PyData) := [(1, .str (Str.ofString "OPTIMIZED")), (2, .str (Str.ofString "NEWLOCALS")), (4, .str (Str.ofString "VARARGS")), (8, .str (Str.ofString "VARKEYWORDS")), (16, .str (Str.ofString "NESTED")), (32, .str (Str.ofString "GENERATOR")), (64, .str (Str.ofString "NOFREE")), (128, .str (Str.ofString "COROUTINE")), (256, .str (Str.ofString "ITERABLE_COROUTINE")), (512, .str (Str.ofString "ASYNC_GENERATOR"))]
theorem keyed22 {w : World} {h : Heap} (X : (hd.heap_1 w.params).In h) : KTD.Keyed h 22 flagTabI := kt_keyed_in X (by kernel_rfl)
theorem my_get {prog : Program} {w : World} {A : Around} {s : Shared} {Q E : Value → Shared → Prop} {h₀ : Heap} {i : Nat} {t u : Tok} (X : (hd.heap_1 w.params).In h₀) (hk : ∀ b o, h₀.get? b = some o → s.heap.get? b = some o) (hi : i < 14)
    (h : ∀ tk, Q (.str (flagName i) tk) { s with toks := s.toks + 1 }) :
    wpAny (model prog w) A (call (.builtin "dict.get") [.ref 22, .int (1 * 2 ^ (0 + (i : Int)).toNat) t, .str (baseText "0x" 16 (1 * 2 ^ (0 + (i : Int)).toNat)) u]) Q E s := by
  refine call_get2_intTab ((keyed22 X).keep hk prog w) (PyProof.V.Flat.str _ _) fun v hv => ?_
  rw [two_pow_i] at hv
  have e := tab_hit hi
  have e2 : (flagTabI.map fun p => (PyData.int p.1, p.2)) = flagTab := rfl
  rw [e2, e] at hv
  obtain ⟨tk, rfl⟩ := PyProof.V.Flat.str_inv hv
  exact h tk
local macro_rules | `(tactic| walk_at "call builtin:dict.get") => `(tactic| (k_here; refine my_get (by assumption) (Fr.keep (by assumption)) (by assumption) ?_; intro tk))
set_option pp.deepTerms false
set_option pp.deepTerms.threshold 8
set_option maxRecDepth 100000 in
set_option maxHeartbeats 4000000 in
theorem pretty_spec {w : World} {mean : ExcName → Option Value} {mg mb : Str → Option Value} {dp un : Nat} {fr : Option (List Env)} {gd : Option (List Code)} {s : Shared} {Q E : Value → Shared → Prop} {fl : Nat} {t : Tok}
    (X : (hd.heap_1 w.params).In s.heap) (T : Top qv LO mean mg mb s.heap) (hA : dp + 5 < recursionLimit) (hf : fl < 2 ^ 14)
    (hret : ∀ t h' tk', Kp s.heap h' → Q (.str (Txt.join (Str.ofString ", ") (wordsOf fl)) t) { s with heap := h', toks := tk' }) :
    wpAny (model PySem.Challenge.rw_rw0080_01.row.prog w) { handled := none, depth := dp, frames := fr, guards := gd, units := un } (call (.ref 29) [.int (fl : Int) t]) Q E s := by
  revert X; k_fill; intro X
  refine enter X T (by show dp < _; omega) (by k_is) (by k_is) [(Str.ofString "flags", some (.int (fl : Int) t))] (BindsTo.of_eq rfl) rfl (locs rfl) (by decide) rfl rfl rfl ?_
  intro L h tk F N
  (try dsimp only); (try k_fold)
  k_steps
  rename_i tk0 nm h2 l1 h1 F1 N1 h3 tk3 t1 u1 v1 hR hF hN hK
  refine Brk.mk ?_
  refine for_range (n := 32) (m := mapOf [(Str.ofString "i", none), (Str.ofString "flag", none), (Str.ofString "names", some (.ref nm)), (Str.ofString "flags", some (.int (fl : Int) t))])
    (fun i m news gs => ∃ (u1 u2 : Option Value) (tf : Tok) (ys : List Value) (e : Nat),
      m = mapOf [(Str.ofString "i", u1), (Str.ofString "flag", u2), (Str.ofString "names", some (.ref nm)), (Str.ofString "flags", some (.int ((rem fl i : Nat) : Int) tf))] ∧
      news = [(nm, W.listOf ys.toArray e)] ∧ StrsAre ys (namesBelow fl i) ∧ gs = s.gens ∧ (i = 0 ∨ rem fl i ≠ 0 ∨ fl = 0)) rfl rfl rfl rfl hR (by decide) rfl (Fr.congr hF (by walk_at "MAP")) hN
    ⟨none, none, t, [], 0, by rw [rem_0], rfl, .nil, rfl, Or.inl rfl⟩ ?_ ?_
  · rintro i ti m' news' h' tk' gs' I oI hi ⟨u1, u2, tf, ys, e, rfl, rfl, hys, rfl, hor⟩ F' N' off
    dsimp only at F' N' ⊢
    have hne : @Ne Nat nm I := off _ (List.Mem.head _)
    have hlen : ys.length ≤ 32 := by rw [StrsAre.length hys]; exact Nat.le_trans (namesBelow_len fl i) (by omega)
    k_steps
    · have hb := bit_of (by assumption)
      have hi14 := i_lt hf hb
      refine P.hex_of_int ?_ (by rw [two_pow_i, PySem.sizeLine_eq]; exact Nat.le_trans (hex_short i hi14) (by decide))
      k_steps
      · rename_i F8 N8 hx
        rw [rem_xor hb] at F8 hx
        rw [List.push_toArray] at N8
        refine Brk.mk ?_
        exact turn_next F8 N8 (by walk_at "MAP") (fun p hp => hp) (by intro p hp; rw [List.mem_singleton.mp hp]; exact hne) trivial
          ⟨_, _, _, _, _, rfl, rfl, by rw [namesBelow_take hb]; exact strs_snoc hys, rfl, Or.inr (Or.inl (by omega))⟩
      · rename_i F8 N8 hx
        rw [rem_xor hb] at F8 hx
        rw [List.push_toArray] at N8
        have hx' : rem fl (i + 1) = 0 := by omega
        have hfl : fl ≠ 0 := by rintro rfl; simp at hb
        refine Brk.mk ?_
        dsimp only [TurnEnd]
        k_steps
        refine Brk.mk ?_
        refine join_strs (News.isList (by assumption) (List.mem_cons_of_mem _ (List.mem_cons_self ..))) (texts := namesBelow fl 14) ?_ (joinOk_names fl) ?_
        · rw [← rem_zero_names (i := i + 1) (by omega) hx', namesBelow_take hb]; exact strs_snoc hys
        · intro t' k'
          have := hret t' _ k' (Fr.keep (by assumption))
          rw [wordsOf, if_neg hfl] at this
          exact this
    · have hb := nobit_of (by assumption)
      rename_i F8 N8 _
      rw [rem_skip hb] at F8
      refine Brk.mk ?_
      exact turn_next F8 N8 (by walk_at "MAP") (fun p hp => hp) (by intro p hp; rw [List.mem_singleton.mp hp]; exact hne) trivial
        ⟨_, _, _, _, _, rfl, rfl, by rw [namesBelow_skip hb]; exact hys, rfl, hor_skip hb hor⟩
  · rintro m' news' h' tk' gs' ⟨u1, u2, tf, ys, e, rfl, rfl, hys, rfl, hor⟩ F' N'
    have hr : rem fl 32 = 0 := by unfold rem; rw [Nat.div_eq_of_lt (by omega), Nat.zero_mul]
    have hfl : fl = 0 := by omega
    subst hfl
    rw [hr] at F'
    have hlen : ys.length ≤ 32 := by rw [StrsAre.length hys]; exact namesBelow_len 0 32
    dsimp only at F' N' ⊢
    k_steps
    refine Brk.mk ?_
    refine join_strs (vs := ys ++ [_]) (by rw [← List.push_toArray]; exact News.isList (by assumption) (List.mem_cons_self ..)) (texts := [Str.ofString "0x0"]) ?_ (by decide +kernel) ?_
    · have hz : namesBelow 0 32 = [] := by decide +kernel
      rw [hz] at hys
      exact strs_snoc (x := Str.ofString "0x0") hys
    · intro t' k'
      exact hret t' _ k' (Fr.keep (by assumption))
end
section
noncomputable def placesOf (fl : Nat) : List Int := ((List.range 14).filter fl.testBit).map Int.ofNat
noncomputable def names10 : List Str := [Str.ofString "OPTIMIZED", Str.ofString "NEWLOCALS", Str.ofString "VARARGS", Str.ofString "VARKEYWORDS", Str.ofString "NESTED", Str.ofString "GENERATOR", Str.ofString "NOFREE", Str.ofString "COROUTINE", Str.ofString "ITERABLE_COROUTINE", Str.ofString "ASYNC_GENERATOR"]
theorem bitsL_len (fl : Nat) : (bitsL fl).length ≤ 14 := Nat.le_trans (List.length_filter_le _ _) (by rw [List.length_range]; exact Nat.le_refl _)
theorem isStrOf_at (k : Str) {vs : List Value} {ys : List Str} (h : StrsAre vs ys) {j : Nat} (hj : j < vs.length) (hj' : j < ys.length) : isStrOf k vs[j] = (ys[j] == k) := by
  obtain ⟨t, e⟩ := h.get j ys[j] (List.getElem?_eq_getElem hj')
  rw [List.getElem?_eq_getElem hj] at e
  rw [Option.some.inj e]
  rfl
theorem index_list_strs {prog : Program} {w : World} {A : Around} {E : Value → Shared → Prop} {s : Shared} {l : Addr} {vs : List Value} {ys : List Str} {k : Str} {t : Tok} {Q : Value → Shared → Prop} (hl : s.heap.IsList l vs.toArray) (hi : StrsAre vs ys)
    (hk : k ∈ ys) (hs : ys.length < 1000) (h : Q (.int (ys.idxOf k : Nat) s.toks) { s with toks := s.toks + 1 }) :
    wpAny (model prog w) A (call (.builtin "list.index") [.ref l, .str k t]) Q E s := by
  obtain ⟨⟨cls, dd, data, sl⟩, ho, hc, n, hd⟩ := id hl
  simp only at hc hd
  subst hc hd
  have hlen := hi.length
  have hj : ys.idxOf k < ys.length := List.idxOf_lt_length_iff.mpr hk
  refine call_meets PySem.F.slot_list_index ⟨_, ho, rfl⟩ PySem.F.entry_list_index (PySem.F.args_list_index_2 _ _)
    (SeqAt.list_indexAt l vs.toArray n dd sl (.str k t) (isStrOf k) (ys.idxOf k) (by simpa [hlen] using hj) (by omega) ?_ ?_) ⟨ho, fun y hy => (eq_isStrOf k t hi y (by simpa using hy)).at _ _, h⟩
  · show isStrOf k vs[ys.idxOf k] = true
    rw [isStrOf_at k hi (by omega) hj]
    simpa using List.getElem_idxOf hj
  · intro j hjs hlt
    show isStrOf k vs[j] = false
    have hjs' : j < vs.length := by simpa using hjs
    rw [isStrOf_at k hi hjs' (by omega)]
    have := List.not_of_lt_findIdx hlt
    simpa using this
theorem flag_idx : ∀ i < 10, flagName i ∈ names10 ∧ names10.idxOf (flagName i) = i := by decide +kernel
theorem word_cases {fl i : Nat} {x : Str} (hx : (wordsOf fl)[i]? = some x) : (fl = 0 ∧ x = Str.ofString "0x0" ∧ (bitsL fl).take i = (bitsL fl).take (i + 1)) ∨ (∃ b, (b < 10 ∨ b = 10 ∨ b = 11 ∨ b = 12 ∨ b = 13) ∧ x = flagName b ∧ (bitsL fl).take (i + 1) = (bitsL fl).take i ++ [b]) := by
  unfold wordsOf at hx
  split at hx
  · rename_i h
    subst h
    refine Or.inl ⟨rfl, ?_, ?_⟩
    · have := List.mem_of_getElem? hx
      exact List.mem_singleton.mp this
    · have : bitsL 0 = [] := by decide +kernel
      rw [this]; simp
  · refine Or.inr ?_
    unfold namesBelow at hx
    rw [List.getElem?_map] at hx
    obtain ⟨b, hb, rfl⟩ := Option.map_eq_some_iff.mp hx
    have hm := List.mem_of_getElem? hb
    have hlt := List.mem_range.mp (List.mem_filter.mp hm).1
    refine ⟨b, by omega, rfl, ?_⟩
    rw [List.take_add_one]
    show _ ++ ((List.range 14).filter fl.testBit)[i]?.toList = _
    rw [hb]; rfl
theorem ints_snoc {vs : List Value} {ns : List Int} {k : Int} {t : Tok} (h : IntsAre vs ns) : IntsAre (vs ++ [.int k t]) (ns ++ [k]) := IntsAre.append h (.cons k t .nil)
theorem offs {a b c I : Addr} {oa ob oc : Obj} (ha : a ≠ I) (hb : b ≠ I) (hc : c ≠ I) : ∀ p ∈ [(a, oa), (b, ob), (c, oc)], p.1 ≠ I := by
  intro p hp
  rcases List.mem_cons.mp hp with rfl | hp
  · exact ha
  · rcases List.mem_cons.mp hp with rfl | hp
    · exact hb
    · rw [List.mem_singleton.mp hp]; exact hc
theorem bits_words (fl : Nat) : (bitsL fl).length ≤ (wordsOf fl).length := by
  unfold wordsOf
  split
  · rename_i h
    subst h
    have : bitsL 0 = [] := by decide +kernel
    rw [this]; exact Nat.zero_le _
  · unfold namesBelow
    rw [List.length_map]
    exact Nat.le_refl _
theorem ints_snoc' {vs : List Value} {ns : List Int} {k k' : Int} {t : Tok} (h : IntsAre vs ns) (e : k = k') : IntsAre (vs ++ [.int k t]) (ns ++ [k']) := e ▸ ints_snoc h
theorem wordsOf_ne (fl : Nat) (hf : fl < 2 ^ 14) : wordsOf fl ≠ [] := by
  unfold wordsOf
  split
  · simp
  · rename_i h
    intro e
    have e2 : namesBelow fl 14 = [] := e
    have : ∀ i, fl.testBit i = false := by
      intro i
      by_cases hi : i < 14
      · unfold namesBelow at e2
        rw [List.map_eq_nil_iff, List.filter_eq_nil_iff] at e2
        have := e2 i (List.mem_range.mpr hi)
        simpa using this
      · exact Nat.testBit_lt_two_pow (Nat.lt_of_lt_of_le hf (Nat.pow_le_pow_right (by decide) (by omega)))
    exact h (Nat.eq_of_testBit_eq (by intro i; rw [this i, Nat.zero_testBit]))
theorem flagName_ok : ∀ i < 14, 44 ∉ (flagName i).cps.toList ∧ 2 ≤ (flagName i).length ∧ (flagName i).length ≤ 20 := by decide +kernel
theorem wordsOf_mem {fl : Nat} : ∀ x ∈ wordsOf fl, 44 ∉ x.cps.toList ∧ 2 ≤ x.length ∧ x.length ≤ 20 := by
  intro x hx
  unfold wordsOf at hx
  split at hx
  · rw [List.mem_singleton.mp hx]; decide +kernel
  · obtain ⟨i, hi, rfl⟩ := List.mem_map.mp hx
    exact flagName_ok i (List.mem_range.mp (List.mem_filter.mp hi).1)
theorem join_head_len (w : Str) (r : List Str) : w.length ≤ (Str.join sepCS (w :: r)).length := by
  cases r with
  | nil => exact Nat.le_refl _
  | cons w2 r =>
    show _ ≤ (w ++ sepCS ++ Str.join sepCS (w2 :: r)).length
    rw [Str.length_append, Str.length_append]; omega
theorem words_split (fl : Nat) (hf : fl < 2 ^ 14) : Txt.split (Txt.join (Str.ofString ", ") (wordsOf fl)) (Str.ofString ", ") = wordsOf fl := by
  have e : Str.ofString ", " = sepCS := by decide +kernel
  rw [e]
  have e2 : Txt.join sepCS (wordsOf fl) = Str.join sepCS (wordsOf fl) := StrLaws.glued_eq_join _ _
  rw [e2]
  refine split_join (wordsOf_ne fl hf) (fun x hx => (wordsOf_mem x hx).1) ?_
  cases hw : wordsOf fl with
  | nil => exact absurd hw (wordsOf_ne fl hf)
  | cons w r =>
    have := wordsOf_mem w (by rw [hw]; exact List.mem_cons_self ..)
    exact Nat.le_trans this.2.1 (join_head_len w r)
theorem words_text_len (fl : Nat) : (Txt.join (Str.ofString ", ") (wordsOf fl)).length ≤ 1000 := by
  have e2 : Txt.join (Str.ofString ", ") (wordsOf fl) = Str.join (Str.ofString ", ") (wordsOf fl) := StrLaws.glued_eq_join _ _
  rw [e2]
  refine Nat.le_trans (StrLaws.join_length_le _ _) ?_
  have h1 := sum_le_mul (l := (wordsOf fl).map (·.length)) (B := 20) fun x hx => by
    obtain ⟨y, hy, rfl⟩ := List.mem_map.mp hx
    exact (wordsOf_mem y hy).2.2
  rw [List.length_map] at h1
  have h2 : (wordsOf fl).length ≤ 14 := by
    unfold wordsOf; split
    · decide
    · exact namesBelow_len fl 14
  have h3 : (Str.ofString ", ").length = 2 := by decide
  rw [h3]; omega
set_option pp.deepTerms false
set_option pp.deepTerms.threshold 8
set_option maxRecDepth 100000 in
set_option maxHeartbeats 4000000 in
theorem places_spec {w : World} {mean : ExcName → Option Value} {mg mb : Str → Option Value} {dp un : Nat} {fr : Option (List Env)} {gd : Option (List Code)} {s : Shared} {Q E : Value → Shared → Prop} {fl : Nat} {t : Tok}
    (X : (hd.heap_1 w.params).In s.heap) (T : Top qv LO mean mg mb s.heap) (hA : dp + 5 < recursionLimit) (hf : fl < 2 ^ 14)
    (hret : ∀ D ys e h' tk', Kp s.heap h' → s.heap.get? D = none → h'.get? D = some (W.listOf ys.toArray e) → IntsAre ys (placesOf fl) → Q (.ref D) { s with heap := h', toks := tk' }) :
    wpAny (model PySem.Challenge.rw_rw0080_01.row.prog w) { handled := none, depth := dp, frames := fr, guards := gd, units := un } (call (.ref 123) [.str (Txt.join (Str.ofString ", ") (wordsOf fl)) t]) Q E s := by
  revert X; k_fill; intro X
  refine enter X T (by show dp < _; exact room 0 hA) (by k_is) (by k_is) [(Str.ofString "words", some (.str (Txt.join (Str.ofString ", ") (wordsOf fl)) t))] (BindsTo.of_eq rfl) rfl (locs rfl) (by decide) rfl rfl rfl ?_
  intro L h tk F N
  (try dsimp only); (try k_fold)
  ((try (with_reducible show wpAny _ _ _ _ _ _)); (try k_fold))
  k_steps
  rename_i tk1 nl h2 l1 h1 tk2 pl h3 l2 h8 F8 N8
  have hpn : @Ne Nat pl nl := by omega
  refine splitN1A F8 N8 (by decide) ?_ (by rw [PySem.sizeLine_eq]; have := words_text_len fl; omega)
  intro lw h9 k9 hsp hst _ _ F9 N9
  rw [words_split fl hf] at hsp
  rw [hsp] at hst
  (try dsimp only at N9 ⊢)
  have hD1 : @Ne Nat pl h8.objs.size := Nat.ne_of_lt (Heap.lt_size (N8 _ (List.mem_cons_self ..)).1)
  have hD2 : @Ne Nat nl h8.objs.size := Nat.ne_of_lt (Heap.lt_size (N8 _ (List.mem_cons_of_mem _ (List.mem_cons_self ..))).1)
  have hDL : h8.objs.size ≠ L := (N9 _ (List.mem_cons_self ..)).2.1
  generalize h8.objs.size = D9 at *
  obtain ⟨nvs, hnv, N9'⟩ : ∃ nvs, StrsAre nvs names10 ∧ News s.heap L h9 [(D9, W.listOf (strValues lw).toArray 0), (pl, W.listOf [].toArray 0), (nl, W.listOf nvs.toArray 0)] := ⟨_, by repeat constructor, N9⟩
  refine Brk.mk ?_
  refine for_list (its := (strValues lw).toArray) (m := mapOf [(Str.ofString "word", none), (Str.ofString "places", some (.ref pl)), (Str.ofString "names", some (.ref nl)), (Str.ofString "words", some (.str (Txt.join (Str.ofString ", ") (wordsOf fl)) t))])
    (fun i m news gs => ∃ (u : Option Value) (ys : List Value) (e : Nat), m = mapOf [(Str.ofString "word", u), (Str.ofString "places", some (.ref pl)), (Str.ofString "names", some (.ref nl)), (Str.ofString "words", some (.str (Txt.join (Str.ofString ", ") (wordsOf fl)) t))] ∧
      news = [(D9, W.listOf (strValues lw).toArray 0), (pl, W.listOf ys.toArray e), (nl, W.listOf nvs.toArray 0)] ∧ IntsAre ys (((bitsL fl).take i).map Int.ofNat) ∧ gs = s.gens) rfl rfl rfl rfl (Fr.congr F9 (by walk_at "MAP")) N9' (Or.inr ⟨_, List.mem_cons_self .., rfl, _, rfl⟩) hDL ⟨none, [], 0, rfl, rfl, .nil, rfl⟩ ?_ ?_
  · rintro i v m' news' h' tk' gs' I oI hi hJ0 F' N' off _
    (try (with_reducible show wpAny _ _ _ _ _ _)); (try k_fold)
    obtain ⟨u, ys, e, rfl, rfl, hys, rfl⟩ := hJ0
    have hpI : @Ne Nat pl I := off (pl, W.listOf ys.toArray e) (List.mem_cons_of_mem _ (List.mem_cons_self ..))
    have hnI : @Ne Nat nl I := off (nl, W.listOf nvs.toArray 0) (List.mem_cons_of_mem _ (List.mem_cons_of_mem _ (List.mem_cons_self ..)))
    have hdI : @Ne Nat D9 I := off (D9, W.listOf (strValues lw).toArray 0) (List.mem_cons_self ..)
    obtain ⟨x, tx, rfl, hx⟩ : ∃ x tx, v = Value.str x tx ∧ (wordsOf fl)[i]? = some x := by
      have hi' : (strValues lw)[i]? = some v := by simpa using hi
      have hlt : i < (strValues lw).length := (List.getElem?_eq_some_iff.mp hi').1
      rw [hst.length] at hlt
      obtain ⟨t9, e9⟩ := hst.get i _ (List.getElem?_eq_getElem hlt)
      rw [hi'] at e9
      exact ⟨_, t9, Option.some.inj e9, List.getElem?_eq_getElem hlt⟩
    have hlen : ys.length ≤ 14 := by
      rw [IntsAre.length hys, List.length_map]
      refine Nat.le_trans (List.length_take_le' _ _) ?_
      exact bitsL_len fl
    (try dsimp only at F' N' ⊢)
    rcases word_cases hx with ⟨hfl, rfl, htk⟩ | ⟨b, hb | rfl | rfl | rfl | rfl, hxb, htk⟩
    · ((try (with_reducible show wpAny _ _ _ _ _ _)); (try k_fold))
      k_steps
      refine Brk.mk ?_
      exact turn_next (by assumption) (by assumption) (by walk_at "MAP") (fun p hp => hp) off (Or.inr ⟨_, List.mem_cons_self .., rfl, _, rfl⟩)
        ⟨_, _, _, rfl, rfl, htk ▸ hys, rfl⟩
    · subst hxb
      have hin : (names10.any fun y => y == flagName b) = true := List.any_eq_true.mpr ⟨flagName b, (flag_idx b hb).1, by simp⟩
      ((try (with_reducible show wpAny _ _ _ _ _ _)); (try k_fold))
      k_steps
      refine index_list_strs (News.isList (by assumption) (by k_mem)) hnv (flag_idx b hb).1 (by decide) ?_
      rw [(flag_idx b hb).2]
      ((try (with_reducible show wpAny _ _ _ _ _ _)); (try k_fold))
      k_steps
      rename_i F8 N8
      rw [List.push_toArray] at N8
      refine Brk.mk ?_
      exact turn_next F8 N8 (by walk_at "MAP") (fun p hp => hp) (by intro p hp; exact offs hdI hpI hnI p hp) (Or.inr ⟨_, List.mem_cons_self .., rfl, _, rfl⟩)
        ⟨_, _, _, rfl, rfl, by rw [htk, List.map_append]; exact ints_snoc hys, rfl⟩
    · have hxb' : x = Str.ofString "0x400" := hxb
      subst hxb'
      ((try (with_reducible show wpAny _ _ _ _ _ _)); (try k_fold))
      k_steps
      · exact absurd ‹Txt.find _ _ = -1› (by decide +kernel)
      · rename_i F8 N8
        rw [List.push_toArray] at N8
        refine Brk.mk ?_
        exact turn_next F8 N8 (by walk_at "MAP") (fun p hp => hp) (by intro p hp; exact offs hdI hpI hnI p hp) (Or.inr ⟨_, List.mem_cons_self .., rfl, _, rfl⟩)
          ⟨_, _, _, rfl, rfl, by rw [htk, List.map_append]; exact ints_snoc' hys (by decide +kernel), rfl⟩
    · have hxb' : x = Str.ofString "0x800" := hxb
      subst hxb'
      ((try (with_reducible show wpAny _ _ _ _ _ _)); (try k_fold))
      k_steps
      · exact absurd ‹Txt.find _ _ = -1› (by decide +kernel)
      · rename_i F8 N8
        rw [List.push_toArray] at N8
        refine Brk.mk ?_
        exact turn_next F8 N8 (by walk_at "MAP") (fun p hp => hp) (by intro p hp; exact offs hdI hpI hnI p hp) (Or.inr ⟨_, List.mem_cons_self .., rfl, _, rfl⟩)
          ⟨_, _, _, rfl, rfl, by rw [htk, List.map_append]; exact ints_snoc' hys (by decide +kernel), rfl⟩
    · have hxb' : x = Str.ofString "0x1000" := hxb
      subst hxb'
      ((try (with_reducible show wpAny _ _ _ _ _ _)); (try k_fold))
      k_steps
      · exact absurd ‹Txt.find _ _ = -1› (by decide +kernel)
      · rename_i F8 N8
        rw [List.push_toArray] at N8
        refine Brk.mk ?_
        exact turn_next F8 N8 (by walk_at "MAP") (fun p hp => hp) (by intro p hp; exact offs hdI hpI hnI p hp) (Or.inr ⟨_, List.mem_cons_self .., rfl, _, rfl⟩)
          ⟨_, _, _, rfl, rfl, by rw [htk, List.map_append]; exact ints_snoc' hys (by decide +kernel), rfl⟩
    · have hxb' : x = Str.ofString "0x2000" := hxb
      subst hxb'
      ((try (with_reducible show wpAny _ _ _ _ _ _)); (try k_fold))
      k_steps
      · exact absurd ‹Txt.find _ _ = -1› (by decide +kernel)
      · rename_i F8 N8
        rw [List.push_toArray] at N8
        refine Brk.mk ?_
        exact turn_next F8 N8 (by walk_at "MAP") (fun p hp => hp) (by intro p hp; exact offs hdI hpI hnI p hp) (Or.inr ⟨_, List.mem_cons_self .., rfl, _, rfl⟩)
          ⟨_, _, _, rfl, rfl, by rw [htk, List.map_append]; exact ints_snoc' hys (by decide +kernel), rfl⟩
  · rintro m' news' h' tk' gs' hJ0 F' N'
    (try (with_reducible show wpAny _ _ _ _ _ _)); (try k_fold)
    obtain ⟨u, ys, e, rfl, rfl, hys, rfl⟩ := hJ0
    (try dsimp only at F' N' ⊢)
    ((try (with_reducible show wpAny _ _ _ _ _ _)); (try k_fold))
    k_steps
    refine hret pl ys e h' _ F'.keep (N' (pl, _) (List.mem_cons_of_mem _ (List.mem_cons_self ..))).2.2 (N' (pl, _) (List.mem_cons_of_mem _ (List.mem_cons_self ..))).1 ?_
    have hsz : (bitsL fl).length ≤ (strValues lw).toArray.size := by
      have : (strValues lw).toArray.size = (wordsOf fl).length := by rw [List.size_toArray]; exact hst.length
      rw [this]
      exact bits_words fl
    rw [List.take_of_length_le hsz] at hys
    exact hys
end
section
local macro_rules | `(tactic| walk_at "eval ListComp") => `(tactic| (k_here; k_dflt (refine LCg.ListComp_U (F₀ := by k_asm) (by with_unfolding_all rfl) (by decide) (by rfl) (by decide) (by rfl) ?_)))
set_option pp.deepTerms false
set_option pp.deepTerms.threshold 8
set_option maxRecDepth 100000 in
set_option maxHeartbeats 4000000 in
theorem flags_spec {w : World} {mean : ExcName → Option Value} {mg mb : Str → Option Value} {dp un : Nat} {fr : Option (List Env)} {gd : Option (List Code)} {s : Shared} {Q E : Value → Shared → Prop} {l : Addr} {vs : List Value} {ns : List Int}
    (X : (hd.heap_1 w.params).In s.heap) (T : Top qv LO mean mg mb s.heap) (hA : dp + 5 < recursionLimit)
    (hl : s.heap.IsList l vs.toArray) (hI : IntsAre vs ns) (hb : ∀ x ∈ ns, 0 ≤ x ∧ x < 14) (hn : ns.length < 20) 
    (hret : ∀ t h' tk', Kp s.heap h' → Q (.int ((ns.map (fun x => 2 ^ x.toNat)).sum) t) { s with heap := h', toks := tk' }) :
    wpAny (model PySem.Challenge.rw_rw0080_01.row.prog w) { handled := none, depth := dp, frames := fr, guards := gd, units := un } (call (.ref 140) [.ref l]) Q E s := by
  revert X; k_fill; intro X
  refine enter X T (by show dp < _; omega) (by k_is) (by k_is) [(Str.ofString "beads", some (.ref l))] (BindsTo.of_eq rfl) rfl (locs rfl) (by decide) rfl rfl rfl ?_
  intro L h tk F N
  (try dsimp only); (try k_fold)
  k_steps
  refine LCg.CompSrc.base rfl (by k_asm) (by k_asm) hl (by rw [PySem.sizeLine_eq]; have := hI.length; simp; omega) ?_
  intro g
  refine kcf_list (fun x => 2 ^ x.toNat) hI (fun k' t' I' oI' C' oC' D' m' ys' h' tk' E' hk' hC' hx' F' N' off' ne' hMark' => ?_) ?_
  · have hb' := hb _ hk'
    dsimp only
    k_steps
    exact kcf_el (by rw [Int.one_mul]) rfl rfl
  · intro ys hys
    dsimp only
    k_steps
    exact hret _ _ _ (Fr.keep (by assumption))
end
section
theorem bit_int {r p st : Nat} (h : st ≤ p) : Builtin.bitAnd ((r : Int).fdiv (2 ^ ((p : Int) - (st : Int)).toNat)) 1 = 0 ↔ r.testBit (p - st) = false := by
  have e : ((p : Int) - (st : Int)).toNat = p - st := by omega
  rw [e, bitAnd_m1, ← kbt_cast, Int.fdiv_eq_ediv_of_nonneg _ (Int.natCast_nonneg _), ← Int.natCast_ediv, Nat.testBit_eq_decide_div_mod_eq]
  simp only [decide_eq_false_iff_not]
  omega
theorem mv_int {r p st : Nat} (h : st ≤ p) (hb : r.testBit p = true) : (r : Int) + (1 * 2 ^ ((p : Int) - (st : Int)).toNat - 1 * 2 ^ (p : Int).toNat) = ((mv st r p : Nat) : Int) := by
  have e : ((p : Int) - (st : Int)).toNat = p - st := by omega
  have := (sub2 hb).1
  rw [e, Int.toNat_natCast, ← kbt_cast, ← kbt_cast]
  unfold mv
  omega
set_option pp.deepTerms false
set_option pp.deepTerms.threshold 8
set_option maxRecDepth 100000 in
set_option maxHeartbeats 4000000 in
theorem sunk_spec {w : World} {mean : ExcName → Option Value} {mg mb : Str → Option Value} {dp un : Nat} {fr : Option (List Env)} {gd : Option (List Code)} {s : Shared} {Q E : Value → Shared → Prop} {fl st : Nat} {t u : Tok}
    (X : (hd.heap_1 w.params).In s.heap) (T : Top qv LO mean mg mb s.heap) (hA : dp + 10 < recursionLimit) (hf : fl < 2 ^ 14) (hs : 0 < st) (hs2 : st < 20)
    (hret : ∀ r t h' tk', Kp s.heap h' → Sunk st fl r → Q (.int (r : Int) t) { s with heap := h', toks := tk' }) :
    wpAny (model PySem.Challenge.rw_rw0080_01.row.prog w) { handled := none, depth := dp, frames := fr, guards := gd, units := un } (call (.ref 130) [.int (fl : Int) t, .int (st : Int) u]) Q E s := by
  revert X; k_fill; intro X
  refine enter X T (by show dp < _; exact room 0 hA) (by k_is) (by k_is) [(Str.ofString "step", some (.int (st : Int) u)), (Str.ofString "flags", some (.int (fl : Int) t))] (BindsTo.of_eq rfl) rfl (locs rfl) (by decide) rfl rfl rfl ?_
  intro L h tk F N
  (try dsimp only); (try k_fold)
  k_steps
  refine Brk.mk ?_
  refine wpAny_While ?_
  refine while_inv (fun n s' => ∃ h tk r tr mo up, s' = { s with heap := h, toks := tk } ∧
      Fr s.heap L h (mapOf [(Str.ofString "more", some (.bool mo)), (Str.ofString "rest", some (.int ((r : Nat) : Int) tr)), (Str.ofString "place", up), (Str.ofString "step", some (.int (st : Int) u)), (Str.ofString "flags", some (.int (fl : Int) t))]) ∧
      News s.heap L h [] ∧ r < 2 ^ 14 ∧ (∀ c, cls st c r = cls st c fl) ∧ (mo = false → Stable st r) ∧ n = (if mo = true then r + 1 else 0)) ?_ (fl + 1)
    ⟨_, _, fl, t, true, none, rfl, Fr.congr (by assumption) (by walk_at "MAP"), by assumption, hf, fun _ => rfl, (fun h => by cases h), rfl⟩
  intro n s' hJ
  (try k_fold)
  obtain ⟨h, tk, r, tr, mo, up, rfl, F, N, hr, hsame, hst, hn⟩ := hJ
  (try dsimp only)
  cases mo with
  | false =>
    k_steps
    exact hret r tr _ _ (Fr.keep (by assumption)) ⟨hr, hsame, hst rfl⟩
  | true =>
    k_steps
    refine Brk.mk ?_
    rename_i F8 N8
    refine pretty_spec (X.keeps F8.keep) (T.keeps F8.keep) (room 6 hA) hr ?_
    intro t9 h9 k9 kp9
    have F9 := F8.keeps kp9
    have N9 := N8.grown kp9
    clear F8 N8
    dsimp only
    k_steps
    refine Brk.mk ?_
    refine places_spec (X.keeps F9.keep) (T.keeps F9.keep) (room 6 hA) hr ?_
    intro D ys e h10 k10 kp10 hD0 hD1 hys
    have F10 := F9.keeps kp10
    have N10 := news_add F9 N9 kp10 hD0 hD1
    have hDL : D ≠ L := (N10 _ (List.mem_cons_self ..)).2.1
    clear F9 N9
    dsimp only
    k_steps
    refine Brk.mk ?_
    refine for_list (its := ys.toArray) (m := mapOf [(Str.ofString "more", some (.bool false)), (Str.ofString "rest", some (.int ((r : Nat) : Int) tr)), (Str.ofString "place", up), (Str.ofString "step", some (.int (st : Int) u)), (Str.ofString "flags", some (.int (fl : Int) t))])
      (fun i m news gs => ∃ (r' : Nat) (tr' : Tok) (mo : Bool) (up : Option Value), m = mapOf [(Str.ofString "more", some (.bool mo)), (Str.ofString "rest", some (.int ((r' : Nat) : Int) tr')), (Str.ofString "place", up), (Str.ofString "step", some (.int (st : Int) u)), (Str.ofString "flags", some (.int (fl : Int) t))] ∧
        news = [(D, W.listOf ys.toArray e)] ∧ PassInv st r i r' mo ∧ gs = s.gens) rfl rfl rfl rfl (Fr.congr F10 (by walk_at "MAP")) N10 (Or.inr ⟨_, List.mem_cons_self .., rfl, _, rfl⟩) hDL ⟨r, tr, false, up, rfl, rfl, pass_start hr, rfl⟩ ?_ ?_
    · intro i v m' news' h' tk' gs' I oI hi hJ F' N' off _
      (try k_fold)
      obtain ⟨r', tr', mo, up, rfl, rfl, H, rfl⟩ := hJ
      have hdI : @Ne Nat D I := off (D, W.listOf ys.toArray e) (List.mem_cons_self ..)
      obtain ⟨k, tv, hk, rfl⟩ := ints_at hys (by simpa using hi)
      obtain ⟨p, hp, rfl⟩ : ∃ p : Nat, (bitsL r)[i]? = some p ∧ k = (p : Int) := by
        unfold placesOf at hk
        rw [List.getElem?_map] at hk
        obtain ⟨p, hp, rfl⟩ := Option.map_eq_some_iff.mp hk
        exact ⟨p, hp, rfl⟩
      have hp14 : p < 14 := (bitsL_mem.mp (List.mem_of_getElem? hp)).1
      have hr'lt := H.lt
      dsimp only at F' N' ⊢
      have hpb : r'.testBit p = true := H.later p (by rw [drop_get hp]; exact List.mem_cons_self ..)
      k_steps
      · refine Brk.mk ?_
        have hsp : st ≤ p := by omega
        have hbit := (bit_int hsp).mp (by assumption)
        rename_i F8 N8
        rw [mv_int hsp hpb] at F8
        exact turn_next F8 N8 (by walk_at "MAP") (fun p hp => hp) off (Or.inr ⟨_, List.mem_cons_self .., rfl, _, rfl⟩) ⟨_, _, _, _, rfl, rfl, pass_move H hs hp hsp hbit, rfl⟩
      · refine Brk.mk ?_
        have hsp : st ≤ p := by omega
        have hbit : r'.testBit (p - st) = true := by
          cases hq : r'.testBit (p - st) with
          | true => rfl
          | false => exact absurd ((bit_int hsp).mpr hq) (by assumption)
        exact turn_next F' N' (by walk_at "MAP") (fun p hp => hp) off (Or.inr ⟨_, List.mem_cons_self .., rfl, _, rfl⟩) ⟨_, _, _, _, rfl, rfl, pass_keep H hp fun _ => hbit, rfl⟩
      · refine Brk.mk ?_
        exact turn_next F' N' (by walk_at "MAP") (fun p hp => hp) off (Or.inr ⟨_, List.mem_cons_self .., rfl, _, rfl⟩) ⟨_, _, _, _, rfl, rfl, pass_keep H hp fun hsp => absurd hsp (by omega), rfl⟩
    · intro m' news' h' tk' gs' hJ F' N'
      obtain ⟨r', tr', mo, up, rfl, rfl, H, rfl⟩ := hJ
      dsimp only at F' N' ⊢
      have hlen : (bitsL r).length ≤ ys.toArray.size := by
        rw [List.size_toArray, IntsAre.length hys]
        unfold placesOf
        rw [List.length_map]
        exact Nat.le_refl _
      refine wpAny_execs_nil ?_
      dsimp only
      refine wpAny_execs_nil ?_
      dsimp only
      cases mo with
      | true => exact ⟨r' + 1, by rw [hn, if_pos rfl]; have := H.less rfl; omega, h', tk', r', tr', true, up, rfl, F', News.nil, H.lt, fun c => (H.same c).trans (hsame c), (fun h => by cases h), rfl⟩
      | false => 
        obtain ⟨rfl, hst'⟩ := pass_end H hlen
        exact ⟨0, by rw [hn, if_pos rfl]; omega, h', tk', r', tr', false, up, rfl, F', News.nil, H.lt, hsame, fun _ => hst', rfl⟩
end
section
section
variable {prog : Program} {w : World} {A : Around} {R : GenEnd} {Y : Protocol} {n : Nat} {s₀ : Shared} {c : Code} {fs : List Frame} {s : Shared} {env : Env}
  {K : Flow → Sem Fin} {H : Value → Sem Fin} {gd : Bool → Bool} {lv : List Value → List Value}
theorem seg_st {st : Stmt} (h : wpAny (model prog w) (A.over c fs) (exec st env) (fun f s' => Seg (model prog w) A R Y n s₀ c (K f) fs s') (fun _ _ => False) s) :
    Seg (model prog w) A R Y n s₀ c ((exec st env).wrap K H gd lv) fs s := seg_wrap (wpAny_mono h (fun _ _ x => x) fun _ _ e => e.elim)
theorem seg_For {target iter : Expr} {body orelse : List Stmt} {pos : Pos} (hs : ∀ x, foldedSetIterable iter env x = pure x)
    (h : wpAny (model prog w) (A.over c fs) (eval iter env) (fun xv s₁ => wpAny (model prog w) (A.over c fs) (pyIter xv) (fun it s₂ => ∀ p,
      Seg (model prog w) A R Y n s₀ (.forLoop target it body orelse env) ((model prog w).den (.forLoop target it body orelse env))
        (.ret (fun r => ((match r with | .ok f => (.pure f : Sem Flow) | .error e => .raise e).onRaise fun (x : Value) => do
        if (← field x 1) == Value.none then unsupported "frame.own-activation:exception-without-traceback"
        setFlight x env.frame).wrap K H gd lv) none (gd false) (lv []) c p [] :: fs) s₂) (fun _ _ => False) s₁) (fun _ _ => False) s) :
    Seg (model prog w) A R Y n s₀ c ((exec (.For target iter body orelse pos) env).wrap K H gd lv) fs s := by
  rw [exec_For]
  refine seg_bind_wrap (wpAny_standAt ?_)
  refine seg_bind_wrap (wpAny_mono h (fun xv s₁ h₁ => ?_) fun _ _ e => e.elim)
  refine seg_bind_wrap (wpAny_of_eq (hs xv) ?_)
  refine seg_bind_wrap (wpAny_standAt ?_)
  refine seg_bind_wrap (wpAny_holding (wpAny_mono h₁ (fun it s₂ h₂ => ?_) fun _ _ e => e.elim))
  exact seg_call h₂
theorem seg_If {test : Expr} {body orelse : List Stmt} {pos : Pos}
    (h : wpAny (model prog w) (A.over c fs) (isTrue test env (eval test env)) (fun b s' => if b = true then Seg (model prog w) A R Y n s₀ c ((execs body env).wrap K H gd lv) fs s'
      else Seg (model prog w) A R Y n s₀ c ((execs orelse env).wrap K H gd lv) fs s') (fun _ _ => False) s) :
    Seg (model prog w) A R Y n s₀ c ((exec (.If test body orelse pos) env).wrap K H gd lv) fs s := by
  rw [exec_If]
  refine seg_bind_wrap (wpAny_standAt ?_)
  refine seg_bind_wrap (wpAny_mono h (fun b s' hb => ?_) fun _ _ e => e.elim)
  cases b with
  | true => rw [if_pos rfl] at hb ⊢; exact hb
  | false => rw [if_neg Bool.false_ne_true] at hb ⊢; exact hb
theorem seg_forLoop {target : Expr} {it : Value} {body orelse : List Stmt}
    (h : wpAny (model prog w) (A.over (.forLoop target it body orelse env) fs) (pyNext it) (fun r s₁ => match r with
      | none => Seg (model prog w) A R Y n s₀ (.block orelse env) ((model prog w).den (.block orelse env)) fs s₁
      | some v => wpAny (model prog w) (A.over (.forLoop target it body orelse env) fs) (letOwnedTupleGo target it v) (fun _ s₁' =>
          wpAny (model prog w) (A.over (.forLoop target it body orelse env) fs) (assign target env v) (fun _ s₂ =>
            Seg (model prog w) A R Y n s₀ (.forLoop target it body orelse env) ((execs body env).wrap (fun f => match f with
              | .next | .cont => .pure (.again (.forLoop target it body orelse env))
              | .brk => .pure (.done .next)
              | .ret v => .pure (.done (.ret v))) (fun e => (do noteFrame e env; theTreesLotGoes e : Sem Unit).wrap (fun _ => .raise e) .raise id id) id id) fs s₂) (fun _ _ => False) s₁') (fun _ _ => False) s₁) (fun _ _ => False) s) :
    Seg (model prog w) A R Y n s₀ (.forLoop target it body orelse env) ((model prog w).den (.forLoop target it body orelse env)) fs s := by
  show Seg _ A R Y n s₀ _ ((forTurn target it body orelse env).onRaise (fun x => do noteFrame x env; theTreesLotGoes x)) fs s
  unfold forTurn
  rw [Sem.onRaise_eq_wrap]
  refine seg_bind_wrap (wpAny_standAt ?_)
  refine seg_bind_wrap (wpAny_onRaise (wpAny_mono h (fun r s₁ h₁ => ?_) fun _ _ e => e.elim))
  cases r with
  | none => exact seg_again rfl h₁
  | some v =>
    refine seg_bind_wrap (wpAny_mono h₁ (fun _ s₁' h₁' => ?_) fun _ _ e => e.elim)
    refine seg_bind_wrap (wpAny_mono h₁' (fun _ s₂ h₂ => ?_) fun _ _ e => e.elim)
    rw [Sem.bind_eq_wrap', Sem.wrap_wrap]
    rw [Sem.wrap_congr (execs body env) _ _ (K' := fun f => match f with
              | .next | .cont => .pure (.again (.forLoop target it body orelse env))
              | .brk => .pure (.done .next)
              | .ret v => .pure (.done (.ret v))) (H' := (fun e => (do noteFrame e env; theTreesLotGoes e : Sem Unit).wrap (fun _ => .raise e) .raise id id))
        (fun f => by cases f <;> rfl)
        (fun e => by first | exact Sem.bind_eq_wrap _ _ | (show (do noteFrame e env; theTreesLotGoes e : Sem Unit).bind (fun _ => .raise e) = _; rw [Sem.bind_eq_wrap]))]
    exact h₂
end
section
variable {prog : Program} {w : World} {A : Around} {E : Value → Shared → Prop} {s : Shared}
theorem wpAny_pyNext_genQ {a : Addr} {g n : Nat} {gs : GenState} {P : Nat → Shared → Shared → Prop} {Y : Protocol} {Q : Option Value → Shared → Prop} (hh : A.handled = none)
    (hl : s.heap.NoLimit) (hroom : A.depth < recursionLimit)
    (hg : s.heap.IsGen a g) (hgs : s.gens[g]? = some gs)
    (hgo : gs.Goes (model prog w) A.in1 (fun n s₀ r s₁ => r = .ok (.ret .none) ∧ P n s₀ s₁) Y n (.send .none) (s.setGen g .running))
    (hY : ∀ v s₁ gs', gs'.bare = true → Y (n - 1) (s.setGen g .running) v s₁ (fun r' s'' => match n with
        | 0 => False
        | m + 1 => gs'.Goes (model prog w) A.in1 (fun n s₀ r s₁ => r = .ok (.ret .none) ∧ P n s₀ s₁) Y m r' s'') → Q (some v) (s₁.setGen g gs'))
    (hP : ∀ s₁, P n (s.setGen g .running) s₁ → ∀ h', (∀ b o, s₁.heap.get? b = some o → h'.get? b = some o) → Q none { s₁.setGen g .finished with heap := h' }) :
    wpAny (model prog w) A (pyNext (.ref a)) Q E s := by
  unfold pyNext
  refine wpAny_bind (wpAny_attempt (wpAny_callSpecial?_slot (name := Str.ofString "__next__") hg.typeIs slot_gen_next
    (wpAny_call_entry slot_gen_next hg.typeIs entry_gen_next ?_ (args_gen_next _))))
  show wpAny _ A.in1 (Builtin.Generator.genWake (.ref a) (.send .none)) _ _ s
  unfold Builtin.Generator.genWake
  refine wpAny_bind (wpAny_holding (wpAny_genNumber hg (wpAny_bind (wpAny_genState hgs ?_))))
  cases gs with
  | running => exact hgo.elim
  | finished => exact hgo.elim
  | _ =>
    refine wpAny_bind (wpAny_roomToWake hl hroom ?_)
    show wpAny _ A.in1 (.resume g (.send .none) [] _) _ _ s
    refine wpAny_resumeQ hgs hgo (fun x s₁ hx => ?_) (fun v s₁ gs' hb hv => ?_)
    · obtain ⟨rfl, hp⟩ := hx
      show wpAny _ A.in1 (newExc (.type "StopIteration") [] >>= _) _ _ _
      refine wpAny_bind ?_
      simp only [newExc, newTuple]
      refine wpAny_bind (wpAny_newObj_type ?_ (by size_fits))
      refine wpAny_bind (m := firstArgMember _ _) (wpAny_of_eq (a := Value.none) (by first | rfl | (simp only [firstArgMember]; rfl)) ?_)
      refine wpAny_newObj_type ?_ (by size_fits)
      simp only [raiseNew]
      refine wpAny_bind (wpAny_bind (wpAny_handled ?_))
      first | rw [show A.in1.handled = none from hh] | rw [hh]
      refine wpAny_throw ?_
      refine wpAny_bind (wpAny_isInstance (T := "StopIteration") (b := true) ⟨_, Heap.get?_push_size _ rfl, rfl⟩ isSubtype_stop ?_)
      exact wpAny_pure (hP s₁ hp _ fun b o hb => Heap.get?_push_of_some _ (Heap.get?_push_of_some _ hb))
    · exact wpAny_pure ⟨v, rfl, wpAny_pure (hY v s₁ gs' hb hv)⟩
end
section
variable {w : World} {mean : ExcName → Option Value} {mg mb : Str → Option Value} {A : Around} {s : Shared} {Q E : Value → Shared → Prop}
  {name qual : Str} {params : Arguments} {body : List Stmt} {scope : Scope} {dV kV doc pm cdv ct oc : Value} {an od : Option Addr} {osl : Array (Option Value)} {f : Addr} {args : List Value} {binds : List (Str × Value)}
theorem enterGen (X : (hd.heap_1 w.params).In s.heap) (T : Top qv LO mean mg mb s.heap) (hroom : A.depth < recursionLimit)
    (ho : (hd.heap_1 w.params).lookup f = some ⟨oc, od, .func (fnOf name qual params body scope dV kV doc pm an cdv ct), osl⟩) (hcd : codeIn (hd.heap_1 w.params) cdv qual = true)
    (l : List (Str × Option Value)) (hbind : BindsTo s (fnOf name qual params body scope dV kV doc pm an cdv ct) ⟨args, []⟩ binds) (hbl : binds.reverse.map (fun p => (p.1, some p.2)) = l) (hloc : ∀ y ∈ binds, scope.names.lookup y.1 = some .local)
    (hcell : ∀ x ∈ scope.names, x.2 ≠ .cell) (hco : scope.isCoroutine = false) (hgen : scope.isGenerator = true) (hk : scope.kind = .function)
    (h : ∀ h₁ tk, Fr s.heap s.heap.objs.size h₁ (mapOf l) → h₁.objs.size = s.heap.objs.size + 1 → ∀ nm qn,
      Q (.ref h₁.objs.size) { s with gens := s.gens.push (.fresh (.func body (envOf qual scope s.heap.objs.size f cdv))), toks := tk, heap := h₁.push { cls := .type "generator", data := .fields #[.int s.gens.size 0, nm, qn] } }) :
    wpAny (model PySem.Challenge.rw_rw0080_01.row.prog w) A (call (.ref f) args) Q E s := by
  refine wpAny_call ?_
  refine codeAny_call_generator (fd := fnOf name qual params body scope dV kV doc pm an cdv ct) hroom (X _ _ ho) rfl hco hgen rfl (codeRec_of X hcd) (hbind _ _ _ _ ?_)
  refine wpAny_newFunctionEnv hcell hloc (fun h₀ hns₀ hsb₀ => ⟨T.nolimit.fresh _ hsb₀, ?_⟩) hk
  have hsz : h₀.objs.size = s.heap.objs.size + 1 := by rw [hsb₀.1, Heap.size_push]
  exact h h₀ _ (Fr.congr ⟨hns₀, fun b o e => hsb₀.extBut b o (Nat.ne_of_lt (Heap.lt_size e)) (Heap.get?_push_of_some _ e), Nat.le_refl _⟩ (lookup_mapOf hbl)) hsz _ _
end
end
section
noncomputable def GSince (C B : Addr) (s₀ s : Shared) : Prop := ∃ h' tk, s = { s₀ with heap := h', toks := tk } ∧ ∀ b o, b ≠ C → b < B → s₀.heap.get? b = some o → h'.get? b = some o
theorem GSince.refl (C B : Addr) (s : Shared) : GSince C B s s := ⟨s.heap, s.toks, rfl, fun _ _ _ _ e => e⟩
theorem GSince.step {C B : Addr} {s₀ s : Shared} (x : GSince C B s₀ s) {h' : Heap} {tk : Nat} (hk : ∀ b o, b ≠ C → b < B → s.heap.get? b = some o → h'.get? b = some o) :
    GSince C B s₀ { s with heap := h', toks := tk } := by
  obtain ⟨h₁, tk₁, rfl, hk₁⟩ := x
  exact ⟨h', tk, rfl, fun b o hC hw e => hk b o hC hw (hk₁ b o hC hw e)⟩
noncomputable def gProto (x : Str) (L C B : Addr) : Protocol := fun m s₀ v s kap =>
  (∃ T c t u, v = .ref T ∧ x.cps[x.cps.size - 1 - m]? = some c ∧ s.heap.IsTuple T #[.int (x.cps.size - 1 - m : Nat) t, .str ⟨#[c]⟩ u] ∧ T ≠ L) ∧ GSince C B s₀ s ∧
    ∀ s'' : Shared, (∀ b o, b ≠ L → s.heap.get? b = some o → s''.heap.get? b = some o) → kap (.send .none) s''
noncomputable abbrev gEnd (C B : Addr) : GenEnd := fun n s₀ r s₁ => r = .ok (.ret .none) ∧ (n = 0 ∧ GSince C B s₀ s₁)
noncomputable def GenAtF (w : World) (A : Around) (a : Addr) (g : Nat) (x : Str) (L C B : Addr) (j : Nat) (s : Shared) : Prop :=
  s.heap.IsGen a g ∧ ∃ gs, s.gens[g]? = some gs ∧ gs.bare = true ∧ ∀ s'' : Shared, (∀ b o, b ≠ L → s.heap.get? b = some o → s''.heap.get? b = some o) →
    gs.Goes (model PySem.Challenge.rw_rw0080_01.row.prog w) A.in1 (gEnd C B) (gProto x L C B) (x.cps.size - j) (.send .none) s''
section
variable {w : World} {A : Around} {s : Shared} {E : Value → Shared → Prop}
theorem gen_item {a : Addr} {g : Nat} {x : Str} {L C B : Addr} {j : Nat} {Q : Option Value → Shared → Prop} (hh : A.handled = none) (hl : s.heap.NoLimit) (hroom : A.depth < recursionLimit) (hj : j < x.cps.size) (haC : a ≠ C) (haB : a < B)
    (G : GenAtF w A a g x L C B j s)
    (hQ : ∀ T c t u h' tk gs', x.cps[j]? = some c → h'.IsTuple T #[.int (j : Nat) t, .str ⟨#[c]⟩ u] → T ≠ L → (∀ b o, b ≠ C → b < B → s.heap.get? b = some o → h'.get? b = some o) → (GenOnlyQ g s.gens gs') →
      GenAtF w A a g x L C B (j + 1) { s with heap := h', toks := tk, gens := gs' } → Q (some (.ref T)) { s with heap := h', toks := tk, gens := gs' }) :
    wpAny (model PySem.Challenge.rw_rw0080_01.row.prog w) A (pyNext (.ref a)) Q E s := by
  obtain ⟨hg, gs, hgs, hb0, hgo⟩ := G
  obtain ⟨m, hm⟩ : ∃ m, x.cps.size - j = m + 1 := ⟨x.cps.size - j - 1, by omega⟩
  rw [hm] at hgo
  refine wpAny_pyNext_genQ (P := fun n s₀ s₁ => n = 0 ∧ GSince C B s₀ s₁) hh hl hroom hg hgs (hgo _ fun _ _ _ e => e) (fun v s₁ gs' hb hv => ?_) (fun s₁ hp h' hk => ?_)
  · obtain ⟨⟨T, c, t, u, rfl, hc, hT, hTL⟩, ⟨h₁, tk₁, rfl, hk₁⟩, hkap⟩ := hv
    have hidx : x.cps.size - 1 - (m + 1 - 1) = j := by omega
    rw [hidx] at hc hT
    refine hQ T c t u h₁ tk₁ _ hc hT hTL hk₁ (GenOnlyQ.of ((GenOnly.setGen s g .running).trans (GenOnly.setGen _ g gs')) (setGen_self (gs := .running) (setGen_self hgs)) hb)
      ⟨let ⟨o, nm, qn, ho, r⟩ := hg; ⟨o, nm, qn, hk₁ a o haC haB ho, r⟩, gs', setGen_self (gs := .running) (setGen_self hgs), hb, fun s'' hal => ?_⟩
    have e : x.cps.size - (j + 1) = m := by omega
    rw [e]
    exact hkap s'' hal
  · exact absurd hp.1 (Nat.succ_ne_zero m)
theorem gen_done {a : Addr} {g : Nat} {x : Str} {L C B : Addr} {Q : Option Value → Shared → Prop} (hh : A.handled = none) (hl : s.heap.NoLimit) (hroom : A.depth < recursionLimit)
    (G : GenAtF w A a g x L C B x.cps.size s)
    (hQ : ∀ h' tk gs', (∀ b o, b ≠ C → b < B → s.heap.get? b = some o → h'.get? b = some o) → (GenOnlyQ g s.gens gs') → Q none { s with heap := h', toks := tk, gens := gs' }) :
    wpAny (model PySem.Challenge.rw_rw0080_01.row.prog w) A (pyNext (.ref a)) Q E s := by
  obtain ⟨hg, gs, hgs, hb0, hgo⟩ := G
  rw [Nat.sub_self] at hgo
  refine wpAny_pyNext_genQ (P := fun n s₀ s₁ => n = 0 ∧ GSince C B s₀ s₁) hh hl hroom hg hgs (hgo _ fun _ _ _ e => e) (fun v s₁ gs' hb hv => ?_) (fun s₁ hp h' hk => ?_)
  · obtain ⟨_, _, hkap⟩ := hv
    exact False.elim (hkap s₁ fun _ _ _ e => e)
  · obtain ⟨_, h₁, tk₁, rfl, hk₁⟩ := hp
    exact hQ _ _ _ (fun b o hb hB e => hk b o (hk₁ b o hb hB e)) (GenOnlyQ.of ((GenOnly.setGen s g .running).trans (GenOnly.setGen _ g .finished)) (setGen_self (gs := .running) (setGen_self hgs)) rfl)
end
theorem seg_ind {M : Model} {A : Around} {R : GenEnd} {Y : Protocol} {c : Code} {t : Sem Fin} {fs : List Frame} (N : Nat) (I : Nat → Shared → Shared → Prop)
    (step : ∀ i s₀ s, i ≤ N → (∀ s₀' s', i < N → I (i + 1) s₀' s' → Seg M A R Y (N - (i + 1)) s₀' c t fs s') → I i s₀ s → Seg M A R Y (N - i) s₀ c t fs s) :
    ∀ i s₀ s, i ≤ N → I i s₀ s → Seg M A R Y (N - i) s₀ c t fs s := by
  have key : ∀ k i s₀ s, i ≤ N → N - i = k → I i s₀ s → Seg M A R Y (N - i) s₀ c t fs s := by
    intro k
    induction k with
    | zero => exact fun i s₀ s hi hk hI => step i s₀ s hi (fun _ _ h _ => absurd h (by omega)) hI
    | succ k ih => exact fun i s₀ s hi hk hI => step i s₀ s hi (fun s₀' s' h hI' => ih (i + 1) s₀' s' h (by omega) hI') hI
  exact fun i s₀ s hi hI => key _ i s₀ s hi rfl hI
noncomputable def cut (h : Heap) (C : Nat) : Heap := ⟨h.objs.extract 0 C, h.life⟩
theorem cut_get {h : Heap} {C b : Nat} (hb : b < C) : (cut h C).get? b = h.get? b := by
  unfold cut Heap.get?
  simp only
  rw [Array.getElem?_extract]
  by_cases h2 : b < h.objs.size
  · rw [if_pos (by simp only [Nat.sub_zero]; omega), Nat.zero_add]
  · rw [if_neg (by simp only [Nat.sub_zero]; omega), Array.getElem?_eq_none (by omega)]
theorem cut_size (h : Heap) (C : Nat) : (cut h C).objs.size ≤ C := by
  unfold cut; simp only [Array.size_extract]; omega
theorem cut_some {h : Heap} {C b : Nat} {o : Obj} (e : (cut h C).get? b = some o) : b < C ∧ h.get? b = some o := by
  have hb : b < C := Nat.lt_of_lt_of_le (Heap.lt_size e) (cut_size h C)
  exact ⟨hb, cut_get hb ▸ e⟩
theorem cut_of {h₀ h : Heap} {C : Nat} (hs : h₀.objs.size ≤ C) (hk : ∀ b o, h₀.get? b = some o → h.get? b = some o) : ∀ b o, h₀.get? b = some o → (cut h C).get? b = some o := fun b o e => by
  rw [cut_get (Nat.lt_of_lt_of_le (Heap.lt_size e) hs)]; exact hk b o e
theorem cut_fr {h : Heap} {C : Nat} {m : Str → Option Value} (hn : h.Ns C m) : Fr (cut h C) C h m := ⟨hn, fun _ _ e => (cut_some e).2, cut_size h C⟩
theorem cut_none {h : Heap} {C b : Nat} (hb : C ≤ b) : (cut h C).get? b = none := Heap.get?_none_of_le (Nat.le_trans (cut_size h C) hb)
theorem cut_back {h h' : Heap} {C : Nat} {m : Str → Option Value} {oG : Obj} {news : List (Addr × Obj)} (F : Fr (cut h C) C h' m) (N : News (cut h C) C h' news) (hm : (C + 1, oG) ∈ news) (hG : h.get? (C + 1) = some oG) :
    ∀ b o, b ≠ C → b < C + 2 → h.get? b = some o → h'.get? b = some o := by
  intro b o hb hlt e
  by_cases hbC : b < C
  · exact F.keep b o (by rw [cut_get hbC]; exact e)
  · obtain rfl : b = C + 1 := by
      have : ¬ (b : Nat) = C := hb
      have h2 : ¬ (b : Nat) < C := hbC
      have h3 : (b : Nat) < C + 2 := hlt
      show (b : Nat) = C + 1
      omega
    rw [hG] at e
    cases e
    exact (N _ hm).1
local macro_rules | `(tactic| walk_at "call type:enumerate") => `(tactic| refine Brk.go ?_)
set_option pp.deepTerms false
set_option pp.deepTerms.threshold 6
set_option maxRecDepth 100000 in
set_option maxHeartbeats 4000000 in
theorem iter_spec {w : World} {mean : ExcName → Option Value} {mg mb : Str → Option Value} {dp un : Nat} {fr : Option (List Env)} {gd : Option (List Code)} {s : Shared} {Q E : Value → Shared → Prop} {x : Str} {t : Tok} {h₀ : Heap} {L : Addr} {m : Str → Option Value}
    (X : (hd.heap_1 w.params).In h₀) (T : Top qv LO mean mg mb h₀) (F : Fr h₀ L s.heap m) (hA : dp + 3 < recursionLimit) (hasc : x.cps.all (· < 128) = true) (hbs : ∀ c ∈ x.cps, c ≠ 92) 
    (hret : ∀ h' tk' gst, (∀ b o, s.heap.get? b = some o → h'.get? b = some o) → gst.bare = true →
      (∀ dp un fr gd, GenAtF w { handled := none, depth := dp, frames := fr, guards := gd, units := un } (s.heap.objs.size + 1) s.gens.size x L s.heap.objs.size (s.heap.objs.size + 2) 0 { s with heap := h', toks := tk', gens := s.gens.push gst }) →
      Q (.ref (s.heap.objs.size + 1)) { s with heap := h', toks := tk', gens := s.gens.push gst }) :
    wpAny (model PySem.Challenge.rw_rw0080_01.row.prog w) { handled := none, depth := dp, frames := fr, guards := gd, units := un } (call (.ref 36) [.str x t]) Q E s := by
  have X' := X.keeps F.keep
  have T' := T.keeps F.keep
  revert X X'; k_fill; intro X X'
  refine enterGen X' T' (by show dp < _; omega) (by k_is) (by k_is) [(Str.ofString "addr", some (.str x t))] (BindsTo.of_eq rfl) rfl (locs rfl) (by decide) rfl rfl rfl ?_
  intro h₁ tk F₁ hsz nm qn
  rw [hsz]
  generalize hC : s.heap.objs.size = C at *
  refine hret _ _ _ (fun b o e => Heap.get?_push_of_some _ (F₁.keep b o e)) rfl fun dp un fr gd => ⟨?_, _, Array.getElem?_push_size .., rfl, fun s'' hal => ⟨rfl, ?_⟩⟩
  · have := Heap.get?_push_size h₁ (o := { cls := .type "generator", data := .fields #[.int s.gens.size 0, nm, qn] }) rfl
    rw [hsz] at this
    exact ⟨_, nm, qn, this, rfl, rfl, rfl⟩
  · refine seg_func ?_
    have hLC : L < C := hC ▸ F.ns.lt
    have hL0 : h₀.get? L = none := Heap.get?_none_of_le F.above
    have hCL : C ≠ L := Nat.ne_of_gt hLC
    obtain ⟨hp, gns, d, tk2, os⟩ := s''
    replace hal : ∀ b o, b ≠ L → (h₁.push { cls := .type "generator", data := .fields #[.int s.gens.size 0, nm, qn] }).get? b = some o → hp.get? b = some o := hal
    have hk0 : ∀ b o, h₀.get? b = some o → hp.get? b = some o := fun b o e => hal b o (fun q => by rw [q, hL0] at e; cases e) (Heap.get?_push_of_some _ (F₁.keep b o (F.keep b o e)))
    have h0C : h₀.objs.size ≤ C := Nat.le_trans F.above (Nat.le_of_lt hLC)
    have hns : hp.Ns C (mapOf [(Str.ofString "addr", some (.str x t))]) := F₁.ns.at' fun o e => hal _ o hCL (Heap.get?_push_of_some _ e)
    obtain ⟨oG, hG⟩ : ∃ oG, hp.get? (C + 1) = some oG := by
      have e1 := Heap.get?_push_size h₁ (o := { cls := .type "generator", data := .fields #[.int s.gens.size 0, nm, qn] }) rfl
      rw [hsz] at e1
      exact ⟨_, hal _ _ (Nat.ne_of_gt (Nat.lt_succ_of_lt hLC)) e1⟩
    clear hal hsz F₁ F hret X' T' hC qn nm tk h₁
    have base : ∀ h : Heap, (∀ b o, h₀.get? b = some o → h.get? b = some o) → Top qv LO mean mg mb (cut h C) := fun h hk => T.keeps (cut_of h0C hk)
    have baseX := fun (h : Heap) (hk : ∀ b o, h₀.get? b = some o → h.get? b = some o) => X.keeps (cut_of h0C hk)
    generalize hS0 : ({ heap := hp, gens := gns, toks := tk2, os := os, drawn := d } : Shared) = S0
    have hsi : GSince C (C + 2) S0 { S0 with heap := hp, toks := tk2 } := by subst hS0; exact GSince.refl _ _ _
    have eS : S0 = { S0 with heap := hp, toks := tk2 } := by subst hS0; rfl
    have hSh : S0.heap = hp := by subst hS0; rfl
    generalize hsc : S0 = S1
    rw [eS] at hsc
    subst hsc
    have T2 := base hp hk0
    have X2 := baseX hp hk0
    have F2 := cut_fr hns
    have N2 : News (cut hp C) C hp [(C + 1, oG)] := fun p hp' => by
      rw [List.mem_singleton.mp hp']; exact ⟨hG, Nat.succ_ne_self _, cut_none (Nat.le_succ _)⟩
    generalize hcut : cut hp C = hb at T2 X2 F2 N2
    clear hns hS0 eS
    refine seg_execs_cons (seg_st ?_)
    (try dsimp only [Around.over]); (try k_fold)
    k_steps
    refine seg_execs_cons (seg_st ?_)
    (try dsimp only [Around.over]); (try k_fold)
    k_steps
    refine seg_execs_cons (seg_For (by intro _; with_unfolding_all rfl) ?_)
    (try dsimp only [Around.over]); (try k_fold)
    k_steps
    refine Brk.mk ?_
    rename_i h8 F8 N8
    refine call_enumerate_str fun h9 he hit hsz9 hk9 => ?_
    dsimp only at he hit hsz9 hk9 ⊢
    refine wpAny_pyIter_enum he ?_
    intro pp
    have F9 := F8.keeps hk9
    have N9 := N8.grown hk9
    subst hcut
    have hk2 : ∀ b o, h₀.get? b = some o → h9.get? b = some o := fun b o e => F9.keep b o (cut_of h0C hk0 b o e)
    have hG9 : h9.get? (C + 1) = some oG := (N9 _ (by k_mem)).1
    have hsi9 : GSince C (C + 2) { S0 with heap := hp, toks := tk2 } { S0 with heap := h9, toks := tk2 + 1 + 1 + 1 } := GSince.step (s := { S0 with heap := hp, toks := tk2 }) (GSince.refl _ _ _) (h' := h9) (tk := tk2 + 1 + 1 + 1) (cut_back F9 N9 (by k_mem) hG)
    have hm9 := (Fr.congr F9 (m' := mapOf [(Str.ofString "ch", none), (Str.ofString "pos", some (.int 0 tk2)), (Str.ofString "escape", some (.bool false)), (Str.ofString "addr", some (.str x t))]) (by walk_at "MAP")).ns
    rw [show strIterType x = "str_ascii_iterator" by unfold strIterType; rw [hasc]; rfl] at hit
    have hge : (C + 2 : Nat) ≤ h8.objs.size := Heap.lt_size (N8 _ (by k_mem)).1
    generalize h8.objs.size = it at *
    generalize hee : it + 1 = e at *
    refine seg_ind x.cps.size (fun i s₀ s => GSince C (C + 2) s₀ s ∧ (∀ b o, h₀.get? b = some o → s.heap.get? b = some o) ∧ s.heap.get? (C + 1) = some oG ∧
      (∃ u v, s.heap.Ns C (mapOf [(Str.ofString "ch", u), (Str.ofString "pos", v), (Str.ofString "escape", some (.bool false)), (Str.ofString "addr", some (.str x t))])) ∧
      (∃ old, IsEnum s.heap e it i old) ∧ s.heap.IsStrIter it "str_ascii_iterator" x t i) ?_ 0 _ _ (Nat.zero_le _) ⟨hsi9, hk2, hG9, ⟨_, _, hm9⟩, ⟨_, he⟩, hit⟩
    clear he hit hm9 hsi9 hG9 hk2 F9 N9 N8 F8 hsz9 hk9 T2 X2 hsi hk0 hSh hG
    rintro i s₀ s1 hi IH ⟨⟨h', tk, rfl, hk'⟩, hk2, hG2, ⟨cu, cv, hns⟩, ⟨old, he⟩, hit⟩
    dsimp only at hk2 hG2 hns he hit IH ⊢
    have hitC : @Ne Nat it C := by omega
    have heC : @Ne Nat e C := by omega
    have hei : @Ne Nat e it := by omega
    have hef : e ∉ [it] := fun q => hei (List.mem_singleton.mp q)
    have T2 := base h' hk2
    have X2 := baseX h' hk2
    have N2 : News (cut h' C) C h' [(C + 1, oG)] := fun p hp' => by
      rw [List.mem_singleton.mp hp']; exact ⟨hG2, Nat.succ_ne_self _, cut_none (Nat.le_succ _)⟩
    have F2 := cut_fr hns
    by_cases hlt : i < x.cps.size
    · obtain ⟨mm, hmm⟩ : ∃ mm, x.cps.size - i = mm + 1 := ⟨x.cps.size - i - 1, by omega⟩
      rw [hmm]
      refine seg_forLoop ?_
      refine (WalksT.enumerateD (Draws.strAscii rfl it x t) e hei hef (List.mem_singleton.mpr rfl)).item i _ _ _ hlt ⟨⟨old, he⟩, hit⟩ fun T3 vals h3 tk3 hP hT hTup hMid hk3 => ?_
      dsimp only
      refine (WalksT.enumerateD (Draws.strAscii rfl it x t) e hei hef (List.mem_singleton.mpr rfl)).go _ _ _ i T3 _ _ _ hMid fun h4 hSt4 hk4 => ?_
      obtain ⟨tt, v, ⟨c, u, hc, rfl⟩, rfl⟩ := hP
      have hTw : T3 ∉ [e, it] := fun hm => by
        rcases List.mem_cons.mp hm with q | hm
        · exact hMid.2.2.1 q
        · exact hMid.2.2.2 (List.mem_singleton.mp hm)
      have k4 : ∀ b o, b ∉ [e, it] → h'.get? b = some o → h4.get? b = some o := fun b o hb e => hk4 b o hb (hk3 b o hb e)
      have nin : ∀ b : Nat, b < C + 2 → b ∉ [e, it] := fun b hb hm => by
        rcases List.mem_cons.mp hm with rfl | hm
        · omega
        · have := List.mem_singleton.mp hm; omega
      have F4 : Fr (cut h' C) C h4 _ := ⟨hns.at' fun o e => k4 C o (nin C (by omega)) e, fun b o e => k4 b o (nin b (by have := (cut_some e).1; omega)) (cut_some e).2, cut_size _ _⟩
      have N4 : News (cut h' C) C h4 [(C + 1, oG)] := fun p hp' => by
        rw [List.mem_singleton.mp hp']; exact ⟨k4 _ _ (nin (C + 1) (by omega)) hG2, Nat.succ_ne_self _, cut_none (Nat.le_succ _)⟩
      have hT4 : h4.IsTuple T3 #[.int i tt, .str ⟨#[c]⟩ u] := let ⟨o, ho, r⟩ := hTup; ⟨o, hk4 _ _ hTw ho, r⟩
      refine kcp_assign rfl hT4 rfl rfl rfl F4.ns fun h5 tk5 hn5 hk5 => ?_
      have F5 : Fr (cut h' C) C h5 (mapOf [(Str.ofString "ch", some (.str ⟨#[c]⟩ u)), (Str.ofString "pos", some (.int i tt)), (Str.ofString "escape", some (.bool false)), (Str.ofString "addr", some (.str x t))]) :=
        Fr.congr ⟨hn5, fun b o e => hk5 b o (fun q => by have := (cut_some e).1; rw [q] at this; exact Nat.lt_irrefl _ this) (F4.keep b o e), cut_size _ _⟩ (by walk_at "MAP")
      obtain ⟨⟨old5, he4⟩, hit4⟩ := hSt4
      have he5 : IsEnum h5 e it ((i + 1 : Nat) : Int) old5 := hk5 _ _ heC he4
      have hit5 : h5.IsStrIter it "str_ascii_iterator" x t (i + 1) := let ⟨o, ho, r⟩ := hit4; ⟨o, hk5 _ _ hitC ho, r⟩
      obtain ⟨oI, hoI, hoI2⟩ := hit5
      have hgC : h5.get? (C + 1) = some oG := hk5 _ _ (Nat.succ_ne_self _) (N4 _ (List.mem_singleton.mpr rfl)).1
      obtain ⟨oE, hoE⟩ : ∃ oE, h5.get? e = some oE ∧ ∀ h, h.get? e = some oE → IsEnum h e it ((i + 1 : Nat) : Int) old5 := ⟨_, he5, fun _ q => q⟩
      have N5 : News (cut h' C) C h5 [(e, oE), (it, oI), (C + 1, oG)] := by
        refine List.forall_mem_cons.mpr ⟨⟨hoE.1, heC, cut_none (by omega)⟩, List.forall_mem_cons.mpr ⟨⟨hoI, hitC, cut_none (by omega)⟩, List.forall_mem_cons.mpr ⟨⟨hgC, Nat.succ_ne_self _, cut_none (Nat.le_succ _)⟩, fun _ h => nomatch h⟩⟩⟩
      have hoE2 := hoE.2
      clear hoE he5 hk5 hn5 hT4 F4 N4 k4 hk4 hk3 hMid hTup he4 hit4 he hit hns F2 N2 hoI hgC
      have hc92 : c ≠ 92 := hbs c (Array.mem_of_getElem? hc)
      refine seg_execs_cons (seg_If ?_)
      (try dsimp only [Around.over]); (try k_fold)
      k_steps
      refine seg_execs_cons (seg_If ?_)
      (try dsimp only [Around.over]); (try k_fold)
      k_steps
      · exfalso
        rename_i hq
        have := eq_of_beq hq
        refine hc92 ?_
        have e2 : (⟨#[c]⟩ : Str).cps = (Str.ofString "\\").cps := by rw [this]
        have e3 : (Str.ofString "\\").cps = #[92] := by decide +kernel
        rw [e3] at e2
        simpa using e2
      · refine seg_execs_cons (seg_Expr_Yield rfl rfl rfl ?_)
        (try dsimp only [Around.over]); (try k_fold)
        refine wpAny_mono (E := fun _ _ => False) ?_ (fun _ _ q => q) (fun _ _ q => q.elim)
        k_steps
        rename_i D8 h8 F8 N8 l8 kap hkap
        have hi2 : x.cps.size - 1 - mm = i := by omega
        have hLn : ∀ b : Nat, C ≤ b → b ≠ L := fun b hb q => Nat.lt_irrefl _ (Nat.lt_of_lt_of_le hLC (q ▸ hb : C ≤ L))
        have heL : @Ne Nat e L := hLn e (by omega)
        have hiL : @Ne Nat it L := hLn it (by omega)
        have hgL : @Ne Nat (C + 1) L := hLn _ (by omega)
        refine ⟨⟨D8, c, tt, u, rfl, by rw [hi2]; exact hc, by rw [hi2]; exact ⟨_, (N8 _ (List.mem_cons_self ..)).1, rfl, _, rfl⟩, fun q => ?_⟩, ?_, ?_⟩
        · rw [q] at l8
          exact absurd (Nat.lt_trans (Nat.lt_succ_self C) l8.2.2) (Nat.lt_asymm hLC)
        · exact ⟨h8, tk5 + 1, rfl, fun b o h1 h2 e => cut_back F8 N8 (by k_mem) hG2 b o h1 h2 (hk' b o h1 h2 e)⟩
        · intro s'' hal
          refine hkap .none s'' ?_
          have hm2 : mm = x.cps.size - (i + 1) := by omega
          subst hm2
          refine seg_again rfl (IH s'' s'' hlt ⟨GSince.refl _ _ _, ?_, ?_, ⟨some (.str ⟨#[c]⟩ u), some (.int i tt), ?_⟩, ⟨_, hoE2 _ ?_⟩, ⟨oI, ?_, hoI2⟩⟩)
          · exact fun b o e => hal b o (fun q => by rw [q, hL0] at e; cases e) (F8.keep b o (cut_of h0C hk2 b o e))
          · exact hal _ _ hgL (N8 (C + 1, oG) (by k_mem)).1
          · exact F8.ns.at' fun o e => hal _ o hCL e
          · exact hal _ _ heL (N8 (e, oE) (by k_mem)).1
          · exact hal _ _ hiL (N8 (it, oI) (by k_mem)).1
    · obtain rfl : i = x.cps.size := by omega
      rw [Nat.sub_self]
      refine seg_forLoop ?_
      refine (WalksT.enumerateD (Draws.strAscii rfl it x t) e hei hef (List.mem_singleton.mpr rfl)).done _ _ _ ⟨⟨old, he⟩, hit⟩ fun h3 tk3 hk3 => ?_
      dsimp only
      have nin : ∀ b : Nat, b < C + 2 → b ∉ [e, it] := fun b hb hm => by
        rcases List.mem_cons.mp hm with rfl | hm
        · omega
        · have := List.mem_singleton.mp hm; omega
      have F3 : Fr (cut h' C) C h3 _ := ⟨hns.at' fun o e => hk3 C o (nin C (by omega)) e, fun b o e => hk3 b o (nin b (by have := (cut_some e).1; omega)) (cut_some e).2, cut_size _ _⟩
      have N3 : News (cut h' C) C h3 [(C + 1, oG)] := fun p hp' => by
        rw [List.mem_singleton.mp hp']; exact ⟨hk3 _ _ (nin (C + 1) (by omega)) hG2, Nat.succ_ne_self _, cut_none (Nat.le_succ _)⟩
      clear hns F2 N2 he hit
      refine seg_leaf (.ok .next) ?_
      refine seg_execs_cons (seg_If ?_)
      (try dsimp only [Around.over]); (try k_fold)
      k_steps
      refine seg_end (.ok (.ret .none)) ⟨rfl, rfl, h3, tk3, rfl, fun b o h1 h2 e => cut_back F3 N3 (by k_mem) hG2 b o h1 h2 (hk' b o h1 h2 e)⟩
end
section
noncomputable def Brackets (x : Str) : Prop := (∀ c ∈ x.cps, c = 40 ∨ c = 41) ∧ x.length ≤ 1000
noncomputable def runB : List Nat → Nat → Bool
  | [], o => o == 0
  | c :: cs, o => if c = 40 then runB cs (o + 1) else match o with | 0 => false | o + 1 => runB cs o
theorem runB_open (l : List Nat) (o : Nat) : runB (40 :: l) o = runB l (o + 1) := by
  cases o <;> simp [runB]
theorem runB_zero (l : List Nat) : runB (41 :: l) 0 = false := by simp [runB]
theorem runB_close (l : List Nat) (o : Nat) : runB (41 :: l) (o + 1) = runB l o := by simp [runB]
theorem no_quote {x : Str} (hx : Brackets x) : (Builtin.Str.occurrences x (Str.ofString "\"") 0 x.length 1).isEmpty = true := by
  have e : Str.ofString "\"" = ⟨#[34]⟩ := by decide +kernel
  rw [e]
  have h := PySem.StrLaws.found_one x 34
  have h2 : decide (34 ∈ x.cps.toList) = false := by
    refine decide_eq_false fun hm => ?_
    rcases hx.1 34 (by simpa using hm) with h | h <;> cases h
  rw [h2] at h
  simpa using h
noncomputable def aboveL (H : Heap) (L : Addr) : List (Addr × Obj) := (List.range H.objs.size).filterMap fun b => if L < b then (H.get? b).map (Prod.mk b) else none
theorem mem_aboveL {H : Heap} {L b : Addr} {o : Obj} : (b, o) ∈ aboveL H L ↔ L < b ∧ H.get? b = some o := by
  unfold aboveL
  rw [List.mem_filterMap]
  constructor
  · rintro ⟨c, hc, h⟩
    split at h
    · rename_i hl
      obtain ⟨o', ho', e⟩ := Option.map_eq_some_iff.mp h
      cases e
      exact ⟨hl, ho'⟩
    · cases h
  · rintro ⟨h1, h2⟩
    exact ⟨b, List.mem_range.mpr (Heap.lt_size h2), by rw [if_pos h1, h2]; rfl⟩
theorem above_news (H : Heap) (L : Addr) : News (cut H L) L H (aboveL H L) := by
  rintro ⟨b, o⟩ hp
  obtain ⟨h1, h2⟩ := mem_aboveL.mp hp
  exact ⟨h2, Nat.ne_of_gt h1, cut_none (Nat.le_of_lt h1)⟩
theorem all_back {H H' : Heap} {L : Addr} {m : Str → Option Value} {news : List (Addr × Obj)} (F : Fr (cut H L) L H' m) (N : News (cut H L) L H' news) (hm : ∀ p ∈ aboveL H L, p ∈ news) :
    ∀ b o, b ≠ L → H.get? b = some o → H'.get? b = some o := by
  intro b o hb e
  rcases Nat.lt_or_gt_of_ne hb with h | h
  · exact F.keep b o (by rw [cut_get h]; exact e)
  · exact (N _ (hm (b, o) (mem_aboveL.mpr ⟨h, e⟩))).1
theorem GenAtF.move {w : World} {A : Around} {a : Addr} {g : Nat} {x : Str} {L C B : Addr} {j : Nat} {s s' : Shared} (G : GenAtF w A a g x L C B j s) (haL : a ≠ L) (hg : s'.gens = s.gens)
    (hk : ∀ b o, b ≠ L → s.heap.get? b = some o → s'.heap.get? b = some o) : GenAtF w A a g x L C B j s' := by
  obtain ⟨⟨o, nm, qn, ho, r⟩, gs, h1, h2, h3⟩ := G
  exact ⟨⟨o, nm, qn, hk _ _ haL ho, r⟩, gs, by rw [hg]; exact h1, h2, fun s'' hal => h3 s'' fun b o hb e => hal b o hb (hk b o hb e)⟩
noncomputable def GTurn (h : Heap) (L : Addr) (s : Shared) (gs : Array GenState) (J : (Str → Option Value) → Prop) (R : Result → Shared → Prop) (f : Flow) (s' : Shared) : Prop :=
  match f with
  | .brk => False
  | .ret v => R (.ok (.ret v)) s'
  | _ => ∃ h' tk' m' news', s' = { s with heap := h', toks := tk', gens := gs } ∧ Fr (cut h L) L h' m' ∧ News (cut h L) L h' news' ∧ (∀ p ∈ aboveL h L, p ∈ news') ∧ J m'
theorem let_gen {w : World} {A : Around} {s : Shared} {E : Value → Shared → Prop} {elts : List Expr} {x1} {pos : Pos} {a T : Addr} {g : Nat} {Q : Unit → Shared → Prop} (hit : s.heap.IsGen a g) (hQ : Q () s) :
    wpAny (model PySem.Challenge.rw_rw0080_01.row.prog w) A (letOwnedTupleGo (.Tuple elts x1 pos) (.ref a) (.ref T)) Q E s := by
  obtain ⟨o, nm, qn, ho, hc, hd, _⟩ := hit
  unfold letOwnedTupleGo
  refine wpAny_bind (wpAny_load ho ?_)
  rw [hc, hd]
  show wpAny _ A (if (["enumerate", "zip", "dict_itemiterator", "dict_reverseitemiterator", "odict_iterator", "itertools.zip_longest", "itertools.pairwise"].contains "generator" &&
      (#[.int g 0, nm, qn] : Array Value)[0]? == some (rawInt T)) = true then _ else _) Q E s
  rw [if_neg (by
    intro h
    rw [show (["enumerate", "zip", "dict_itemiterator", "dict_reverseitemiterator", "odict_iterator", "itertools.zip_longest", "itertools.pairwise"].contains "generator") = false from by decide, Bool.false_and] at h
    cases h)]
  exact wpAny_pure hQ
theorem gen_for {w : World} {mean : ExcName → Option Value} {mg mb : Str → Option Value} {A : Around} {s : Shared} {h₀ : Heap} {L : Addr} {env : Env} {m : Str → Option Value} {p ch : Str} {pp pc pt : Pos} {kk : Nat} {body : List Stmt} {R : Result → Shared → Prop}
    {a : Addr} {g : Nat} {x : Str} {C : Addr} (J : Nat → (Str → Option Value) → Prop) (T : Top qv LO mean mg mb h₀) (hh : A.handled = none) (hroom : A.depth < recursionLimit)
    (hxp : env.kindOf p = some .local) (hxc : env.kindOf ch = some .local) (hp : (env.scope.kind == .class || (env.scope.kind == .module && env.locals != env.globals)) = false) (hL : env.locals = L)
    (hLC : L < C) (haC : C < a) (F : Fr h₀ L s.heap m) (hgs : ∀ y ∈ s.gens, y.bare = true) (G : GenAtF w A a g x L C (a + 1) 0 s) (hj : J 0 m)
    (turn : ∀ (i : Nat) c t u m h tk gs, x.cps[i]? = some c → J i m → (∀ y ∈ gs, y.bare = true) → (∀ b o, h₀.get? b = some o → (cut h L).get? b = some o) →
      Fr (cut h L) L h (fun y => if y = ch then some (.str ⟨#[c]⟩ u) else if y = p then some (.int (i : Nat) t) else m y) → News (cut h L) L h (aboveL h L) →
      wpAny (model PySem.Challenge.rw_rw0080_01.row.prog w) A (execs body env) (GTurn h L s gs (J (i + 1)) R) (fun _ _ => False) { s with heap := h, toks := tk, gens := gs })
    (done : ∀ m h tk gs, J x.cps.size m → Fr h₀ L h m → (∀ y ∈ gs, y.bare = true) → R (.ok .next) { s with heap := h, toks := tk, gens := gs }) :
    codeAny (model PySem.Challenge.rw_rw0080_01.row.prog w) A (.forLoop (.Tuple [.Name p pp, .Name ch pc] kk pt) (.ref a) body [] env) R s := by
  subst hL
  have haL : a ≠ env.locals := Nat.ne_of_gt (Nat.lt_trans hLC haC)
  have hCL : C ≠ env.locals := Nat.ne_of_gt hLC
  refine codeAny_forLoop_any (fun n s' => ∃ h' tk' gs' m' i, s' = { s with heap := h', toks := tk', gens := gs' } ∧ i ≤ x.cps.size ∧ n = x.cps.size + 1 - i ∧ Fr h₀ env.locals h' m' ∧ (∀ y ∈ gs', y.bare = true) ∧
    GenAtF w A a g x env.locals C (a + 1) i { s with heap := h', toks := tk', gens := gs' } ∧ J i m') ?_ (x.cps.size + 1) ⟨s.heap, s.toks, s.gens, m, 0, rfl, Nat.zero_le _, rfl, F, hgs, G, hj⟩
  rintro n s' ⟨h', tk', gs', m', i, rfl, hi, rfl, F', hb', G', hj'⟩
  have hL0 : h₀.get? env.locals = none := Heap.get?_none_of_le F'.above
  have hC0 : h₀.objs.size ≤ C := Nat.le_trans F'.above (Nat.le_of_lt hLC)
  have old : ∀ {b : Addr} {o}, h₀.get? b = some o → b ≠ C ∧ b < a + 1 := fun {b o} e => by
    have h1 : b < C := Nat.lt_of_lt_of_le (Heap.lt_size e) hC0
    exact ⟨Nat.ne_of_lt h1, Nat.lt_succ_of_lt (Nat.lt_trans h1 haC)⟩
  by_cases hlt : i < x.cps.size
  · refine gen_item hh (T.nolimit.keeps F'.keep) hroom hlt (Nat.ne_of_gt haC) (Nat.lt_succ_self _) G' fun T3 c t u h3 tk3 gs3 hc hT3 hTL hk3 hq3 G3 => ?_
    dsimp only
    refine let_gen G3.1 ?_
    have F3 : Fr h₀ env.locals h3 m' := ⟨F'.ns.at' fun o e => hk3 _ o (Ne.symm hCL) (Nat.lt_succ_of_lt (Nat.lt_trans hLC haC)) e, fun b o e => hk3 b o (old e).1 (old e).2 (F'.keep b o e), F'.above⟩
    refine kcp_assign hh hT3 hxp hxc hp F3.ns fun h4 tk4 hn4 hk4 => ?_
    have F4 : Fr h₀ env.locals h4 (fun y => if y = ch then some (.str ⟨#[c]⟩ u) else if y = p then some (.int (i : Nat) t) else m' y) := ⟨hn4, fun b o e => hk4 b o (fun q => by rw [q, hL0] at e; cases e) (F3.keep b o e), F3.above⟩
    have G4 : GenAtF w A a g x env.locals C (a + 1) (i + 1) { s with heap := h4, toks := tk4, gens := gs3 } := G3.move haL rfl hk4
    refine wpAny_mono (turn i c t u m' h4 tk4 gs3 hc hj' (hq3.bare hb') (cut_of F4.above F4.keep) (cut_fr F4.ns) (above_news h4 env.locals)) (fun f s5 h5 => ?_) fun _ _ e => e.elim
    have fin : (∃ h' tk' m' news', s5 = { s with heap := h', toks := tk', gens := gs3 } ∧ Fr (cut h4 env.locals) env.locals h' m' ∧ News (cut h4 env.locals) env.locals h' news' ∧ (∀ p ∈ aboveL h4 env.locals, p ∈ news') ∧ J (i + 1) m') →
        ∃ k', k' < x.cps.size + 1 - i ∧ (∃ h' tk' gs' m' i, s5 = { s with heap := h', toks := tk', gens := gs' } ∧ i ≤ x.cps.size ∧ k' = x.cps.size + 1 - i ∧ Fr h₀ env.locals h' m' ∧ (∀ y ∈ gs', y.bare = true) ∧
          GenAtF w A a g x env.locals C (a + 1) i { s with heap := h', toks := tk', gens := gs' } ∧ J i m') := by
      rintro ⟨h6, tk6, m6, news6, rfl, F6, N6, sub6, hj6⟩
      have back := all_back F6 N6 sub6
      refine ⟨x.cps.size + 1 - (i + 1), by omega, h6, tk6, gs3, m6, i + 1, rfl, hlt, rfl, ⟨F6.ns, fun b o e => F6.keep b o (cut_of F4.above F4.keep b o e), F4.above⟩, hq3.bare hb', G4.move haL rfl back, hj6⟩
    cases f with
    | next => exact fin h5
    | cont => exact fin h5
    | brk => exact h5.elim
    | ret v => exact h5
  · obtain rfl : i = x.cps.size := Nat.le_antisymm hi (Nat.not_lt.mp hlt)
    refine gen_done hh (T.nolimit.keeps F'.keep) hroom G' fun h3 tk3 gs3 hk3 hq3 => ?_
    dsimp only
    refine wpAny_execs_nil ?_
    refine done m' h3 tk3 gs3 hj' ⟨F'.ns.at' fun o e => hk3 _ o (Ne.symm hCL) (Nat.lt_succ_of_lt (Nat.lt_trans hLC haC)) e, fun b o e => hk3 b o (old e).1 (old e).2 (F'.keep b o e), F'.above⟩ (hq3.bare hb')
local macro_rules | `(tactic| walk_at "exec For Tuple Call cons nil") => `(tactic| (k_here; k_dflt (refine wpAny_For ?_ (by intro _; with_unfolding_all rfl))))
local macro_rules | `(tactic| walk_at "GTurn") => `(tactic| refine Brk.go ?_)
set_option pp.deepTerms false
set_option pp.deepTerms.threshold 6
set_option maxRecDepth 100000 in
set_option maxHeartbeats 4000000 in
theorem strip_spec {w : World} {mean : ExcName → Option Value} {mg mb : Str → Option Value} {dp un : Nat} {fr : Option (List Env)} {gd : Option (List Code)} {s : Shared} {Q E : Value → Shared → Prop} {x : Str} {t : Tok}
    (X : (hd.heap_1 w.params).In s.heap) (T : Top qv LO mean mg mb s.heap) (hA : dp + 3 < recursionLimit) (hx : Brackets x)
    (hret : ∀ h' tk' t', Kp s.heap h' → Q (.str x t') { s with heap := h', toks := tk' }) :
    wpAny (model PySem.Challenge.rw_rw0080_01.row.prog w) { handled := none, depth := dp, frames := fr, guards := gd, units := un } (call (.ref 43) [.str x t]) Q E s := by
  revert X; k_fill; intro X
  refine enter X T (by show dp < _; exact room 0 hA) (by k_is) (by k_is) [(Str.ofString "addr", some (.str x t))] (BindsTo.of_eq rfl) rfl (locs rfl) (by decide) rfl rfl rfl ?_
  intro L h tk F N
  (try dsimp only); (try k_fold)
  k_steps
  · exact hret _ _ _ F.keep
  · rename_i hoc _ _ _ _ _ _ _ _ _
    rw [no_quote hx] at hoc; cases hoc
set_option maxRecDepth 100000 in
set_option maxHeartbeats 4000000 in
theorem check_spec {w : World} {mean : ExcName → Option Value} {mg mb : Str → Option Value} {dp un : Nat} {fr : Option (List Env)} {gd : Option (List Code)} {s : Shared} {Q E : Value → Shared → Prop} {x : Str} {t : Tok}
    (X : (hd.heap_1 w.params).In s.heap) (T : Top qv LO mean mg mb s.heap) (hA : dp + 8 < recursionLimit) (hx : Brackets x) (hgs : ∀ g ∈ s.gens, g.bare = true)
    (hret : ∀ h' tk' gs', Kp s.heap h' → (∀ g ∈ gs', g.bare = true) → Q (.bool (runB x.cps.toList 0)) { s with heap := h', toks := tk', gens := gs' }) :
    wpAny (model PySem.Challenge.rw_rw0080_01.row.prog w) { handled := none, depth := dp, frames := fr, guards := gd, units := un } (call (.ref 50) [.str x t]) Q E s := by
  revert X; k_fill; intro X
  refine enter X T (by show dp < _; exact room 0 hA) (by k_is) (by k_is) [(Str.ofString "addr", some (.str x t))] (BindsTo.of_eq rfl) rfl (locs rfl) (by decide) rfl rfl rfl ?_
  intro L h tk F N
  (try dsimp only); (try k_fold)
  k_steps
  refine Brk.mk ?_
  refine strip_spec (X.keeps F.keep) (T.keeps F.keep) (room 4 hA) hx fun h8 tk8 t8 kp8 => ?_
  have F8 := F.keeps kp8
  have N8 : News s.heap L h8 [] := News.nil
  clear F N
  dsimp only
  k_steps
  refine Brk.mk ?_
  rename_i h9 F9 N9
  refine iter_spec X T F9 (room 4 hA) ?_ ?_ fun h1 tk1 gst kp1 hb1 G => ?_
  · rw [Array.all_eq_true]
    intro i hi
    rcases hx.1 _ (Array.getElem_mem hi) with h | h <;> rw [h] <;> rfl
  · intro c hc
    rcases hx.1 c hc with rfl | rfl <;> decide
  replace G := G (dp + 1)
  dsimp only at G kp1 ⊢
  have hLC : L < h9.objs.size := F9.ns.lt
  generalize h9.objs.size = C at *
  refine Brk.mk ?_
  refine wpAny_pyIter_gen (g := s.gens.size) (G 0 none none).1 ?_
  have F1 := F9.keeps kp1
  refine gen_for (C := C) (m := mapOf [(Str.ofString "pos", none), (Str.ofString "ch", none), (Str.ofString "opens", some (.int 0 tk)), (Str.ofString "addr", some (.str x t8))])
    (fun i m => ∃ (cv pv : Option Value) (o : Nat) (ot : Tok), m = mapOf [(Str.ofString "pos", pv), (Str.ofString "ch", cv), (Str.ofString "opens", some (.int (o : Int) ot)), (Str.ofString "addr", some (.str x t8))] ∧ o ≤ i ∧ runB x.cps.toList 0 = runB (x.cps.toList.drop i) o)
    T rfl (by show dp + 1 < _; exact room 1 hA) rfl rfl rfl rfl hLC (Nat.lt_succ_self C) (Fr.congr F1 (by walk_at "MAP")) ?_ (G _ _ _) ⟨none, none, 0, tk, rfl, Nat.le_refl _, rfl⟩ ?_ ?_
  · intro y hy
    rcases Array.mem_push.mp hy with h | rfl
    · exact hgs y h
    · exact hb1
  · rintro i c tt u m' h' tk' gs' hc ⟨cv, pv, o, ot, rfl, hoi, hrun⟩ hb' hk0 F' N'
    have X' := X.keeps hk0
    have T' := T.keeps hk0
    have hc2 : c = 40 ∨ c = 41 := hx.1 c (Array.mem_of_getElem? hc)
    have hil : i < 1000 := Nat.lt_of_lt_of_le (Array.getElem?_eq_some_iff.mp hc).1 hx.2
    have hdrop : x.cps.toList.drop i = c :: x.cps.toList.drop (i + 1) := by
      obtain ⟨hi, e⟩ := Array.getElem?_eq_some_iff.mp hc
      rw [List.drop_eq_getElem_cons (by simpa using hi)]
      congr 1
    clear X T F1 F9 N9 G
    dsimp only at F' N' ⊢
    rcases hc2 with rfl | rfl
    · have hrun2 : runB (x.cps.toList.drop i) o = runB (x.cps.toList.drop (i + 1)) (o + 1) := by rw [hdrop]; exact runB_open _ _
      k_steps
      rename_i h5 F5 N5
      refine Brk.mk ?_
      exact ⟨h5, _, _, _, rfl, Fr.congr F5 (m' := mapOf [(Str.ofString "pos", some (.int i tt)), (Str.ofString "ch", some (.str ⟨#[40]⟩ u)), (Str.ofString "opens", some (.int ((o + 1 : Nat) : Int) _)), (Str.ofString "addr", some (.str x t8))]) (by walk_at "MAP"), N5, fun p hp => hp, ⟨_, _, _, _, rfl, by omega, hrun.trans hrun2⟩⟩
    · k_steps
      · rename_i h5 F5 N5 hneg
        refine Brk.mk ?_
        have ho0 : o = 0 := by omega
        subst ho0
        have e : runB x.cps.toList 0 = false := by rw [hrun, hdrop]; exact runB_zero _
        rw [e] at hret
        exact hret _ _ _ (fun b o e => F5.keep b o (hk0 b o e)) hb'
      · rename_i h5 F5 N5 hneg
        refine Brk.mk ?_
        obtain ⟨o2, rfl⟩ : ∃ o2, o = o2 + 1 := ⟨o - 1, by omega⟩
        have hrun2 : runB (x.cps.toList.drop i) (o2 + 1) = runB (x.cps.toList.drop (i + 1)) o2 := by rw [hdrop]; exact runB_close _ _
        have e1 : (((o2 + 1 : Nat) : Int) - 1) = ((o2 : Nat) : Int) := by omega
        rw [e1] at F5
        exact ⟨h5, _, _, _, rfl, Fr.congr F5 (m' := mapOf [(Str.ofString "pos", some (.int i tt)), (Str.ofString "ch", some (.str ⟨#[41]⟩ u)), (Str.ofString "opens", some (.int ((o2 : Nat) : Int) _)), (Str.ofString "addr", some (.str x t8))]) (by walk_at "MAP"), N5, fun p hp => hp, ⟨_, _, _, _, rfl, by omega, hrun.trans hrun2⟩⟩
  · rintro m' h' tk' gs' ⟨cv, pv, o, ot, rfl, hoi, hrun⟩ F' hb'
    have N' : News s.heap L h' [] := News.nil
    clear F1 F9 N9 G
    dsimp only at F' N' ⊢
    k_steps
    have hd : x.cps.toList.drop x.cps.size = [] := List.drop_of_length_le (by simp)
    rw [hd] at hrun
    have e : runB x.cps.toList 0 = ((o : Int) == 0) := by
      rw [hrun, runB]
      cases o <;> rfl
    rw [e] at hret
    exact hret _ _ _ F'.keep hb'
end
section
noncomputable def closes (n : Nat) : Str := ⟨Array.replicate n 41⟩
noncomputable def wantedFrom (f : List Nat) (n : Nat) : Nat → Nat → Nat
  | 0, _ => n
  | k + 1, i => if runB (f ++ List.replicate i 41) 0 then i else wantedFrom f n k (i + 1)
noncomputable def wanted (f : List Nat) (n : Nat) : Nat := wantedFrom f n n 0
theorem small_of {n k : Nat} (hn : n ≤ k) (hk : k ≤ 10000 := by decide) : Builtin.Range.small 0 (n : Int) 1 = true := by
  have h2 : (n : Int) ≤ 10000 := by omega
  exact small_one (by decide) (by decide) (by omega) (by omega)
theorem mul_closes (i : Nat) : Txt.mul (Str.ofString ")") (i : Int) = closes i := by
  have e : Str.ofString ")" = ⟨#[41]⟩ := by decide +kernel
  rw [e]
  have h := PyProof.Rows.mul_one_list 41 (i : Int)
  rw [Int.toNat_natCast] at h
  have h2 : (Txt.mul ⟨#[41]⟩ (i : Int)).cps = Array.replicate i 41 := by
    apply Array.toList_inj.mp
    rw [h, Array.toList_replicate]
  generalize Txt.mul ⟨#[41]⟩ (i : Int) = z at h2
  obtain ⟨c⟩ := z
  subst h2; rfl
theorem closes_len (i : Nat) : (closes i).length = i := Array.size_replicate
theorem cps_append (x y : Str) : (x ++ y).cps.toList = x.cps.toList ++ y.cps.toList := by
  show (x.cps ++ y.cps).toList = _
  exact Array.toList_append
theorem closes_list (i : Nat) : (closes i).cps.toList = List.replicate i 41 := Array.toList_replicate
theorem brackets_append {x y : Str} (hx : ∀ c ∈ x.cps, c = 40 ∨ c = 41) (hy : ∀ c ∈ y.cps, c = 40 ∨ c = 41) (hl : x.length + y.length ≤ 1000) : Brackets (x ++ y) := by
  refine ⟨fun c hc => ?_, by rw [Str.length_append]; exact hl⟩
  rcases Array.mem_append.mp hc with h | h
  · exact hx c h
  · exact hy c h
theorem closes_br (i : Nat) : ∀ c ∈ (closes i).cps, c = 40 ∨ c = 41 := by
  intro c hc
  exact Or.inr (Array.mem_replicate.mp hc).2
theorem wanted_step_yes {f : List Nat} {n i : Nat} (hi : i < n) (h : runB (f ++ List.replicate i 41) 0 = true) : wantedFrom f n (n - i) i = i := by
  obtain ⟨k, hk⟩ : ∃ k, n - i = k + 1 := ⟨n - i - 1, by omega⟩
  rw [hk, wantedFrom, if_pos h]
theorem wanted_step_no {f : List Nat} {n i : Nat} (hi : i < n) (h : runB (f ++ List.replicate i 41) 0 = false) : wantedFrom f n (n - i) i = wantedFrom f n (n - (i + 1)) (i + 1) := by
  obtain ⟨k, hk⟩ : ∃ k, n - i = k + 1 := ⟨n - i - 1, by omega⟩
  have e : n - (i + 1) = k := by omega
  rw [hk, wantedFrom, h, e]; rfl
theorem bindL_none {K : Str → Option NameKind} : ∀ (binds : List (Str × Value)) {m : Str → Option Value} {z : Str}, m z = none → (∀ y ∈ binds, K y.1 = some .local → z ≠ y.1) → bindL K binds m z = none
  | [], _, _, hm, _ => hm
  | (n, v) :: r, m, z, hm, hz => by
    unfold bindL
    refine bindL_none r ?_ fun y hy => hz y (List.mem_cons_of_mem _ hy)
    split
    · rename_i hk
      show (if z = n then some v else m z) = none
      rw [if_neg (hz (n, v) (List.mem_cons_self ..) hk)]
      exact hm
    · exact hm
theorem bindL_map {K : Str → Option NameKind} {binds : List (Str × Value)} (l : List (Str × Option Value)) (hl : ∀ p ∈ l, bindL K binds (fun _ => none) p.1 = p.2)
    (hs : (binds.all fun y => (K y.1 != some .local) || (l.map (·.1)).contains y.1) = true) : ∀ z, bindL K binds (fun _ => none) z = mapOf l z := by
  refine to_mapOf l hl fun z hz => bindL_none binds rfl fun y hy hk => ?_
  have := List.all_eq_true.mp hs y hy
  rw [hk] at this
  simp only [bne_self_eq_false, Bool.false_or, List.contains_iff_mem] at this
  exact fun e => hz (e ▸ this)
local macro_rules | `(tactic| walk_at "exec For Tuple Call cons nil") => `(tactic| (k_here; k_dflt (refine wpAny_For ?_ (by intro _; with_unfolding_all rfl))))
set_option pp.deepTerms false
set_option pp.deepTerms.threshold 6
set_option maxRecDepth 100000 in
set_option maxHeartbeats 4000000 in
theorem wanted_spec {w : World} {mean : ExcName → Option Value} {mg mb : Str → Option Value} {dp un : Nat} {fr : Option (List Env)} {gd : Option (List Code)} {s : Shared} {Q E : Value → Shared → Prop} {x : Str} {t t2 : Tok} {n : Nat}
    (X : (hd.heap_1 w.params).In s.heap) (T : Top qv LO mean mg mb s.heap) (hA : dp + 10 < recursionLimit) (hx : Brackets x) (hxl : x.length ≤ 500) (hn : n ≤ 20) (hgs : ∀ g ∈ s.gens, g.bare = true)
    (hret : ∀ h' tk' gs' t', Kp s.heap h' → (∀ g ∈ gs', g.bare = true) → Q (.int (wanted x.cps.toList n : Nat) t') { s with heap := h', toks := tk', gens := gs' }) :
    wpAny (model PySem.Challenge.rw_rw0080_01.row.prog w) { handled := none, depth := dp, frames := fr, guards := gd, units := un } (call (.ref 164) [.str x t, .int (n : Int) t2]) Q E s := by
  revert X; k_fill; intro X
  refine enter X T (by show dp < _; exact room 0 hA) (by k_is) (by k_is) [(Str.ofString "most", some (.int (n : Int) t2)), (Str.ofString "front", some (.str x t))] (BindsTo.of_eq rfl) rfl (locs rfl) (by decide) rfl rfl rfl ?_
  intro L h tk F N
  (try dsimp only); (try k_fold)
  ((try (with_reducible show wpAny _ _ _ _ _ _)); (try k_fold))
  k_steps
  rename_i h8 tk8 u1 u2 u3 hR F8 N8 kp8
  refine Brk.mk ?_
  obtain ⟨Jv, hJv⟩ : ∃ Jv : Nat → (Str → Option Value) → List (Addr × Obj) → Array GenState → Prop, Jv = (fun i m news gs => ∃ (u : Option Value), m = mapOf [(Str.ofString "many", u), (Str.ofString "most", some (.int (n : Int) t2)), (Str.ofString "front", some (.str x t))] ∧ news = [] ∧ (∀ g ∈ gs, g.bare = true) ∧ wanted x.cps.toList n = wantedFrom x.cps.toList n (n - i) i) := ⟨_, rfl⟩
  refine for_range (n := n) (m := mapOf [(Str.ofString "many", none), (Str.ofString "most", some (.int (n : Int) t2)), (Str.ofString "front", some (.str x t))])
    Jv
    rfl rfl rfl rfl hR (small_of hn) (by omega) (Fr.congr F8 (by walk_at "MAP")) N8 (fam hJv ⟨none, rfl, rfl, hgs, rfl⟩) ?_ ?_
  · rintro i ti m' news' h' tk' gs' I oI hi hJ0 F' N' off
    (try (with_reducible show wpAny _ _ _ _ _ _)); (try k_fold)
    rw [hJv] at hJ0
    obtain ⟨u, rfl, rfl, hb', hw⟩ := hJ0
    rw [Int.zero_add] at F'
    (try dsimp only at F' N' ⊢)
    have hml : (Txt.mul (Str.ofString ")") (i : Int)).length ≤ 20 := by rw [mul_closes, closes_len]; omega
    ((try (with_reducible show wpAny _ _ _ _ _ _)); (try k_fold))
    k_steps
    rw [mul_closes]
    refine Brk.mk ?_
    refine check_spec (X.keeps F'.keep) (T.keeps F'.keep) (room 9 hA) (brackets_append hx.1 (closes_br i) (by rw [closes_len]; omega)) hb' fun h5 tk5 gs5 kp5 hb5 => ?_
    rw [cps_append, closes_list]
    have F5 := F'.keeps kp5
    have N5 := N'.grown kp5
    clear F' N'
    (try dsimp only at F5 N5 ⊢)
    cases hrun : runB (x.cps.toList ++ List.replicate i 41) 0
    · ((try (with_reducible show wpAny _ _ _ _ _ _)); (try k_fold))
      k_steps
      refine Brk.mk ?_
      exact turn_next F5 N5 (by walk_at "MAP") (fun p hp => hp) off trivial (fam hJv ⟨_, rfl, rfl, hb5, hw.trans (wanted_step_no hi hrun)⟩)
    · ((try (with_reducible show wpAny _ _ _ _ _ _)); (try k_fold))
      k_steps
      refine Brk.mk ?_
      rw [wanted_step_yes hi hrun] at hw
      rw [hw] at hret
      exact hret _ _ _ _ F5.keep hb5
  · rintro m' news' h' tk' gs' hJ0 F' N'
    (try (with_reducible show wpAny _ _ _ _ _ _)); (try k_fold)
    rw [hJv] at hJ0
    obtain ⟨u, rfl, rfl, hb', hw⟩ := hJ0
    (try dsimp only at F' N' ⊢)
    ((try (with_reducible show wpAny _ _ _ _ _ _)); (try k_fold))
    k_steps
    rw [Nat.sub_self] at hw
    have hw2 : wanted x.cps.toList n = n := hw
    rw [hw2] at hret
    exact hret _ _ _ _ F'.keep hb'
end
section
section
variable {prog : Program} {w : World} {A : Around} {h₀ : Heap} {L : Addr} {m : Str → Option Value} {env : Env} {ct elt : Expr} {x : Str} {scope : Scope} {cl : List (Str × Addr)} {s : Shared} {S : List (Addr × Obj) → Prop} {P : Nat → Value → Prop} {Fin : List Value → List (Addr × Obj) → Prop}
theorem compT_ind (n : Nat) (news : List (Addr × Obj)) (J : Nat → List Value → Prop) (h0 : J 0 []) (fin : ∀ ys, J n ys → Fin ys news)
    (step : ∀ k i ys, i < n → J i ys → (∀ ys', J (i + 1) ys' → LCt.CompRestT prog w A h₀ L m env ct elt x scope cl s S P Fin k (i + 1) ys' news) → LCt.CompRestT prog w A h₀ L m env ct elt x scope cl s S P Fin (k + 1) i ys news) :
    LCt.CompRestT prog w A h₀ L m env ct elt x scope cl s S P Fin n 0 [] news := by
  have key : ∀ k i ys, i + k = n → J i ys → LCt.CompRestT prog w A h₀ L m env ct elt x scope cl s S P Fin k i ys news := by
    intro k
    induction k with
    | zero => exact fun i ys e hJ => LCt.CompRestT.zero (fin ys (by have : i = n := by omega
                                                                    exact this ▸ hJ))
    | succ k ih => exact fun i ys e hJ => step k i ys (by omega) hJ fun ys' hJ' => ih (i + 1) ys' (by omega) hJ'
  exact key n 0 [] (by omega) h0
theorem comp_ind (n : Nat) (news : List (Addr × Obj)) (J : Nat → List Value → Prop) (h0 : J 0 []) (fin : ∀ ys, J n ys → Fin ys news)
    (step : ∀ k i ys, i < n → J i ys → (∀ ys', J (i + 1) ys' → LCg.CompRest prog w A h₀ L m env elt x scope cl s S P Fin k (i + 1) ys' news) → LCg.CompRest prog w A h₀ L m env elt x scope cl s S P Fin (k + 1) i ys news) :
    LCg.CompRest prog w A h₀ L m env elt x scope cl s S P Fin n 0 [] news := by
  have key : ∀ k i ys, i + k = n → J i ys → LCg.CompRest prog w A h₀ L m env elt x scope cl s S P Fin k i ys news := by
    intro k
    induction k with
    | zero => exact fun i ys e hJ => LCg.CompRest.zero (fin ys (by have : i = n := by omega
                                                                   exact this ▸ hJ))
    | succ k ih => exact fun i ys e hJ => step k i ys (by omega) hJ fun ys' hJ' => ih (i + 1) ys' (by omega) hJ'
  exact key n 0 [] (by omega) h0
end
end
section
theorem packed_eq (ns : List Int) (st : Int) :
   List.map (fun k' : Int =>
        if
            (List.take k'.toNat (List.map (fun k' => k'.fmod st) ns)).length = min k'.toNat (List.map (fun k' => k'.fmod st) ns).length ∧
              (List.take k'.toNat (List.map (fun k' => k'.fmod st) ns)).length ≤ (List.map (fun k' => k'.fmod st) ns).length then
          (List.map (fun k' => k'.fmod st) ns).getD k'.toNat 0 +
            st * ↑(List.count ((List.map (fun k' => k'.fmod st) ns).getD k'.toNat 0) (List.take k'.toNat (List.map (fun k' => k'.fmod st) ns)))
        else k')
      (rangeKs 0 (((List.map (fun k' => k'.fmod st) ns).length : Int) - 0).toNat) =
    List.map (fun i => (ns.getD i 0).fmod st + st * ↑(List.count ((ns.getD i 0).fmod st) (List.take i (List.map (fun k' => k'.fmod st) ns))))
      (List.range ns.length) := by
  apply List.ext_getElem
  · simp [rangeKs_length]
  · intro i h1 h2
    have hi : i < ns.length := by simpa using h2
    simp [rangeKs, hi, List.length_take]
    intro h
    omega
local macro_rules | `(tactic| walk_at "CompSrc") => `(tactic| refine Brk.go ?_)
local macro_rules | `(tactic| walk_at "CompEnd") => `(tactic| refine Brk.go ?_)
theorem take_next {l : List Int} {i : Nat} {x : Int} (h : l[i]? = some x) : l.take (i + 1) = l.take i ++ [x] := by
  rw [List.take_add_one, h]; rfl
theorem range_next {f : Nat → Int} (i : Nat) : (List.range (i + 1)).map f = (List.range i).map f ++ [f i] := by
  rw [List.range_succ, List.map_append]; rfl
theorem pack_elt {ns rs : List Int} {st : Int} {i : Nat} (hR : (ns.map fun k => k.fmod st) = rs) (hi : i < ns.length) : (rs.getD ((i : Int)).toNat 0) + st * ((rs.take ((i : Int)).toNat).count (rs.getD ((i : Int)).toNat 0) : Int) = (ns.getD i 0).fmod st + st * ((rs.take i).count ((ns.getD i 0).fmod st) : Int) := by
  subst hR
  have e : (ns.map fun k => k.fmod st).getD i 0 = (ns.getD i 0).fmod st := by simp [hi]
  rw [Int.toNat_natCast, e]
theorem ints_few {l : List Int} (h : l.length < 20) : l.length ≤ 100000 := Nat.le_trans (Nat.le_of_lt h) (by decide)
set_option pp.deepTerms false
set_option pp.deepTerms.threshold 8
set_option maxRecDepth 100000 in
set_option maxHeartbeats 4000000 in
theorem packed_spec {w : World} {mean : ExcName → Option Value} {mg mb : Str → Option Value} {dp un : Nat} {fr : Option (List Env)} {gd : Option (List Code)} {s : Shared} {Q E : Value → Shared → Prop} {l : Addr} {vs : List Value} {ns : List Int} {st : Int} {t : Tok}
    (X : (hd.heap_1 w.params).In s.heap) (T : Top qv LO mean mg mb s.heap) (hA : dp + 5 < recursionLimit)
    (hl : s.heap.IsList l vs.toArray) (hI : IntsAre vs ns) (hb : ∀ x ∈ ns, 0 ≤ x ∧ x < 14) (hn : ns.length < 20) (hs : 0 < st ∧ st < 20)
    (hret : ∀ D ns' ys e h' tk', Kp s.heap h' → s.heap.get? D = none → h'.get? D = some (seqObj "list" ys.toArray e) → IntsAre ys ns' → ns'.Perm ((List.range ns.length).map fun i => (ns.getD i 0).fmod st + st * (((ns.map fun k => k.fmod st).take i).count ((ns.getD i 0).fmod st) : Int)) → ns'.Pairwise (· ≤ ·) → Q (.ref D) { s with heap := h', toks := tk' }) :
    wpAny (model PySem.Challenge.rw_rw0080_01.row.prog w) { handled := none, depth := dp, frames := fr, guards := gd, units := un } (call (.ref 135) [.ref l, .int st t]) Q E s := by
  revert X; k_fill; intro X
  refine enterC X T (by show dp < _; omega) (by k_is) (by k_is) (BindsTo.of_eq rfl) rfl (by decide +kernel) rfl rfl rfl ?_
  intro L h tk cells F N Y'
  k_cells Y'; (try simp only [List.cons_append, List.nil_append] at N); (try dsimp only); (try k_fold)
  have hvl := hI.length
  have hst0 : 0 < st := hs.1
  have hst1 : st < 20 := hs.2
  replace F := Fr.congr F (m' := mapOf [(Str.ofString "beads", some (.ref l))]) (by exact bindL_map _ (List.forall_mem_cons.mpr ⟨rfl, fun _ h => nomatch h⟩) rfl)
  clear hs
  k_steps
  refine Brk.mk ?_
  refine LCg.CompSrc.base rfl F N hl (by rw [PySem.sizeLine_eq, List.size_toArray, hvl]; exact Nat.le_trans (Nat.le_of_lt hn) (by decide)) fun g => ?_
  refine comp_ind _ _ (fun i ys => IntsAre ys ((ns.take i).map fun k => k.fmod st)) .nil ?_ ?_
  · intro ys hys
    rw [List.size_toArray, hvl, List.take_length] at hys
    have hyl := hys.length
    rw [List.length_map] at hyl
    (try dsimp only)
    k_steps
    rename_i D8 h8 tk8 off8 h9 oR F9 N9 d9 h10 tk10 q1 q2 q3 hR10 F10 N10 kp10
    refine Brk.mk ?_
    rw [List.length_map] at hR10
    refine LCg.CompSrc.range (n := ns.length) rfl F10 N10 hR10 (small_one (by decide) (by decide) (by omega) (by omega)) (by rw [rangeSize_nat]; simp) (by rw [PySem.sizeLine_eq]; exact Nat.le_trans (Nat.le_of_lt hn) (by decide)) fun g2 => ?_
    refine comp_ind _ _ (fun i ys' => IntsAre ys' ((List.range i).map fun j => (ns.getD j 0).fmod st + st * (((ns.map fun k => k.fmod st).take j).count ((ns.getD j 0).fmod st) : Int))) .nil ?_ ?_
    · intro ys2 hys2
      (try dsimp only)
      k_steps
      rename_i D11 h11 tk11 F11 N11 o11
      refine Brk.mk ?_
      refine sorted_N F11 N11 (News.isList N11 (List.mem_cons_self ..)) hys2 (by rw [hys2.length]; rw [List.length_map, List.length_range]; exact Nat.lt_trans hn (show 20 < 64 by decide)) fun h12 vs12 ns12 e12 F12 N12 hI12 hp12 hs12 => ?_
      exact hret _ ns12 vs12 e12 _ _ F12.keep ((N12 _ (List.mem_cons_self ..)).2.2) ((N12 _ (List.mem_cons_self ..)).1) hI12 hp12 hs12
    · rintro k i ys2 hi hys2 hrec
      clear hret
      refine LCg.CompRest.succ ?_
      rintro v I oI C' oC' D m' h' tk' E' ⟨ti, rfl⟩ hC' hx' F' N' off' ne'
      rw [Int.zero_add] at *
      have hlen : (ns.map fun k => k.fmod st).length = ns.length := List.length_map ..
      generalize hR : (ns.map fun k => k.fmod st) = rs at *
      clear hI hb hvl hyl
      k_steps
      refine Brk.mk ?_
      exact LCg.CompEnd.intro (by assumption) (by assumption) _ (fun p hp => List.mem_cons_of_mem _ hp) off' trivial (hrec _ (by rw [range_next, ← pack_elt hR hi]; exact IntsAre.append hys2 (.cons _ _ .nil)))
  · rintro k i ys hi hys hrec
    clear hret
    refine LCg.CompRest.succ ?_
    rintro v I oI C' oC' D m' h' tk' E' hv hC' hx' F' N' off' ne'
    obtain ⟨x, tx, hxi, rfl⟩ := ints_at hI (show vs[i]? = some v by simpa using hv)
    clear hv hi hn hvl hA
    k_steps
    refine Brk.mk ?_
    exact LCg.CompEnd.intro (by assumption) (by assumption) _ (fun p hp => hp) off' (Or.inl hl) (hrec _ (by rw [take_next hxi, List.map_append]; exact IntsAre.append hys (.cons _ _ .nil)))
end
section
/-- the text and the open brackets after i rests -/
noncomputable def nestSt (rests : List Int) : Nat → List Nat × Nat
  | 0 => ([], 0)
  | i + 1 => ((nestSt rests i).1 ++ List.replicate ((nestSt rests i).2 - rests.count (i : Int)) 41 ++ [40], rests.count (i : Int) + 1)
noncomputable def nestT (rests : List Int) (st : Nat) : List Nat := (nestSt rests st).1 ++ List.replicate (nestSt rests st).2 41
theorem nest_bd {rests : List Int} (hl : rests.length < 20) : ∀ i, (nestSt rests i).2 ≤ 20 ∧ (nestSt rests i).1.length ≤ 21 * i
  | 0 => ⟨Nat.zero_le _, Nat.le_refl _⟩
  | i + 1 => by
    obtain ⟨h1, h2⟩ := nest_bd hl i
    have h3 : rests.count (i : Int) ≤ rests.length := List.count_le_length
    refine ⟨by show rests.count (i : Int) + 1 ≤ 20; omega, ?_⟩
    show ((nestSt rests i).1 ++ List.replicate ((nestSt rests i).2 - rests.count (i : Int)) 41 ++ [40]).length ≤ _
    simp only [List.length_append, List.length_replicate, List.length_cons, List.length_nil]
    omega
theorem mul_closes' (n : Int) : Txt.mul (Str.ofString ")") n = closes n.toNat := by
  have e : Str.ofString ")" = ⟨#[41]⟩ := by decide +kernel
  rw [e]
  have h := PyProof.Rows.mul_one_list 41 n
  have h2 : (Txt.mul ⟨#[41]⟩ n).cps = Array.replicate n.toNat 41 := by
    apply Array.toList_inj.mp
    rw [h, Array.toList_replicate]
  generalize Txt.mul ⟨#[41]⟩ n = z at h2
  obtain ⟨c⟩ := z
  subst h2; rfl
theorem str_of_list {x : Str} {l : List Nat} (h : x.cps.toList = l) : x = ⟨l.toArray⟩ := by
  obtain ⟨c⟩ := x
  subst h
  rfl
theorem open_list : (Str.ofString "(").cps.toList = [40] := by decide +kernel
theorem nest_text {rests : List Int} {i : Nat} {x : Str} (h : x = (⟨(nestSt rests i).1.toArray⟩ : Str) ++ ((Txt.mul (Str.ofString ")") (((nestSt rests i).2 : Int) - (rests.count (i : Int) : Int))) ++ Str.ofString "(")) : x = ⟨(nestSt rests (i + 1)).1.toArray⟩ := by
  subst h
  refine str_of_list ?_
  rw [cps_append, cps_append, mul_closes', closes_list, open_list]
  show _ = (nestSt rests i).1 ++ List.replicate ((nestSt rests i).2 - rests.count (i : Int)) 41 ++ [40]
  rw [List.append_assoc]
  have : (((nestSt rests i).2 : Int) - (rests.count (i : Int) : Int)).toNat = (nestSt rests i).2 - rests.count (i : Int) := by omega
  rw [this]
theorem nest_end {rests : List Int} {st : Nat} : (⟨(nestSt rests st).1.toArray⟩ : Str) ++ Txt.mul (Str.ofString ")") ((nestSt rests st).2 : Int) = ⟨(nestT rests st).toArray⟩ := by
  refine str_of_list ?_
  rw [cps_append, mul_closes', closes_list, Int.toNat_natCast]
  rfl
theorem list_len (l : List Nat) : (⟨l.toArray⟩ : Str).length = l.length := by
  show l.toArray.size = _
  rw [List.size_toArray]
local macro_rules | `(tactic| walk_at "exec For Tuple Call cons nil") => `(tactic| (k_here; k_dflt (refine wpAny_For ?_ (by intro _; with_unfolding_all rfl))))
set_option pp.deepTerms false
set_option pp.deepTerms.threshold 6
set_option maxRecDepth 100000 in
set_option maxHeartbeats 4000000 in
theorem nest_spec {w : World} {mean : ExcName → Option Value} {mg mb : Str → Option Value} {dp un : Nat} {fr : Option (List Env)} {gd : Option (List Code)} {s : Shared} {Q E : Value → Shared → Prop} {l : Addr} {vs : List Value} {ns : List Int} {st : Nat} {t : Tok}
    (X : (hd.heap_1 w.params).In s.heap) (T : Top qv LO mean mg mb s.heap) (hA : dp + 10 < recursionLimit) (hl : s.heap.IsList l vs.toArray) (hI : IntsAre vs ns) (hb : ∀ x ∈ ns, 0 ≤ x ∧ x < 14) (hn : ns.length < 20) (hs : 0 < st ∧ st < 20)
    (hret : ∀ h' tk' t', Kp s.heap h' → Q (.str ⟨(nestT (ns.map (·.fmod (st : Int))) st).toArray⟩ t') { s with heap := h', toks := tk' }) :
    wpAny (model PySem.Challenge.rw_rw0080_01.row.prog w) { handled := none, depth := dp, frames := fr, guards := gd, units := un } (call (.ref 157) [.ref l, .int (st : Int) t]) Q E s := by
  revert X; k_fill; intro X
  refine enterC X T (by show dp < _; exact room 0 hA) (by k_is) (by k_is) (BindsTo.of_eq rfl) rfl (by decide +kernel) rfl rfl rfl ?_
  intro L h tk cells F N Y'
  k_cells Y'; (try simp only [List.cons_append, List.nil_append] at N); (try dsimp only); (try k_fold)
  replace F := Fr.congr F (m' := mapOf [(Str.ofString "beads", some (.ref l))]) (by
    exact bindL_map _ (List.forall_mem_cons.mpr ⟨rfl, fun _ h => nomatch h⟩) rfl)
  rename_i oC dC
  ((try (with_reducible show wpAny _ _ _ _ _ _)); (try k_fold))
  k_steps
  rename_i g7 ys hI8 hL8 D8 h7 tk7 o7 h6 h9 F7 N7 h8 tk8 u1 u2 u3 hR F8 N8 kp8
  refine Brk.mk ?_
  have ht0 : Str.ofString "" = ⟨(nestSt (ns.map fun k => k.fmod (st : Int)) 0).1.toArray⟩ := by show Str.ofString "" = ⟨([] : List Nat).toArray⟩; decide +kernel
  rw [ht0] at F8
  generalize hre : (ns.map fun k => k.fmod (st : Int)) = rests at *
  have hrl : rests.length < 20 := by rw [← hre, List.length_map]; exact hn
  (try dsimp only at N8)
  obtain ⟨Jv, hJv⟩ : ∃ Jv : Nat → (Str → Option Value) → List (Addr × Obj) → Array GenState → Prop, Jv = (fun i m news gs => ∃ (u : Option Value) (t1 t2 : Tok), m = mapOf [(Str.ofString "rest", u), (Str.ofString "stand", some (.int ((nestSt rests i).2 : Nat) t1)), (Str.ofString "text", some (.str ⟨(nestSt rests i).1.toArray⟩ t2)), (Str.ofString "rests", some (.ref D8)), (Str.ofString "beads", some (.ref l))] ∧ news = [(D8, LCg.lst ys), (L + 1, oC)] ∧ gs = s.gens) := ⟨_, rfl⟩
  refine for_range (n := st) (m := mapOf [(Str.ofString "rest", none), (Str.ofString "stand", some (.int 0 _)), (Str.ofString "text", some (.str ⟨(nestSt rests 0).1.toArray⟩ _)), (Str.ofString "rests", some (.ref D8)), (Str.ofString "beads", some (.ref l))])
    Jv
    rfl rfl rfl rfl hR (small_of (Nat.le_of_lt hs.2)) (by omega) (Fr.congr F8 (by walk_at "MAP")) N8 (fam hJv ⟨_, _, _, rfl, rfl, rfl⟩) ?_ ?_
  · rintro i ti m' news' h' tk' gs' I oI hi hJ0 F' N' off
    (try (with_reducible show wpAny _ _ _ _ _ _)); (try k_fold)
    rw [hJv] at hJ0
    obtain ⟨u, t1, t2, rfl, rfl, rfl⟩ := hJ0
    rw [Int.zero_add] at F'
    (try dsimp only at F' N' ⊢)
    have hb1 := (nest_bd hrl i).1
    have hb2 : rests.count (i : Int) ≤ 20 := Nat.le_trans List.count_le_length (by omega)
    have hb3 : (⟨(nestSt rests i).1.toArray⟩ : Str).length ≤ 500 := by rw [list_len]; have := (nest_bd hrl i).2; omega
    have hml : (Txt.mul (Str.ofString ")") (((nestSt rests i).2 : Int) - (rests.count (i : Int) : Int))).length ≤ 20 := by rw [mul_closes', closes_len]; omega
    ((try (with_reducible show wpAny _ _ _ _ _ _)); (try k_fold))
    k_steps
    rename_i h5 F5 N5
    rw [nest_text (rests := rests) (i := i) rfl] at F5
    refine Brk.mk ?_
    exact turn_next F5 N5 (by walk_at "MAP") (fun p hp => hp) off trivial (fam hJv ⟨_, _, _, rfl, rfl, rfl⟩)
  · rintro m' news' h' tk' gs' hJ0 F' N'
    (try (with_reducible show wpAny _ _ _ _ _ _)); (try k_fold)
    rw [hJv] at hJ0
    obtain ⟨u, t1, t2, rfl, rfl, rfl⟩ := hJ0
    (try dsimp only at F' N' ⊢)
    have hb1 := (nest_bd hrl st).1
    have hb3 : (⟨(nestSt rests st).1.toArray⟩ : Str).length ≤ 500 := by rw [list_len]; have := (nest_bd hrl st).2; omega
    have hml : (Txt.mul (Str.ofString ")") ((nestSt rests st).2 : Int)).length ≤ 20 := by rw [mul_closes', closes_len]; omega
    ((try (with_reducible show wpAny _ _ _ _ _ _)); (try k_fold))
    k_steps
    rw [nest_end]
    exact hret _ _ _ F'.keep
end
section
noncomputable def frontsTo (x : List Nat) (n : Nat) : List (List Nat) := ((List.range n).filter fun i => x.getD i 0 = 40).map fun i => x.take i
noncomputable def frontsOf (x : List Nat) : List (List Nat) := frontsTo x x.length
noncomputable def toldL (fs : List (List Nat)) (st : Nat) : List Int := (List.range fs.length).flatMap fun r => (List.range (wanted (fs.getD r []) st)).map fun (k : Nat) => (r : Int) + (st : Int) * (k : Int)
theorem slice_front {x : Str} {i : Nat} (hi : i < x.length) : (Txt.slice x none (some (i : Int))).cps.toList = x.cps.toList.take i := by
  have h := eq_of_beq (slice_closes_toL (x := x) (j := (i : Int)) (by omega) (by omega))
  rw [h]
  simp
theorem item_open {x : Str} {i : Nat} (hi : i < x.length) : (Txt.item x (i : Int) == Str.ofString "(") = decide (x.cps.toList.getD i 0 = 40) := by
  have e : Str.ofString "(" = ⟨#[40]⟩ := by decide +kernel
  have hi' : i < x.cps.size := hi
  have hc : Txt.charAt x (i : Int) = some x.cps[i] := by
    unfold Txt.charAt seqIndex?
    have h1 : ¬ ((i : Int) < 0) := by omega
    have h2 : (decide (0 ≤ (i : Int)) && decide ((i : Int) < x.length)) = true := by
      rw [Bool.and_eq_true, decide_eq_true_eq, decide_eq_true_eq]; omega
    rw [if_neg h1]
    (try dsimp only)
    rw [h2]
    simp [hi']
  unfold Txt.item
  rw [hc, e]
  have hg : x.cps.toList.getD i 0 = x.cps[i] := by
    rw [List.getD_eq_getElem?_getD]
    simp [hi']
  rw [hg]
  by_cases h : x.cps[i] = 40
  · simp [h]
  · have : (⟨#[x.cps[i]]⟩ : Str) ≠ ⟨#[40]⟩ := fun q => h (by injection q with q; simpa using q)
    simp [h, this]
theorem fronts_yes {x : List Nat} {i : Nat} (h : x.getD i 0 = 40) : frontsTo x (i + 1) = frontsTo x i ++ [x.take i] := by
  unfold frontsTo
  rw [List.range_succ, List.filter_append, List.map_append]
  have : List.filter (fun i => decide (x.getD i 0 = 40)) [i] = [i] := List.filter_cons_of_pos (decide_eq_true h)
  rw [this]; rfl
theorem fronts_no {x : List Nat} {i : Nat} (h : ¬ x.getD i 0 = 40) : frontsTo x (i + 1) = frontsTo x i := by
  unfold frontsTo
  rw [List.range_succ, List.filter_append, List.map_append]
  have : List.filter (fun i => decide (x.getD i 0 = 40)) [i] = [] := List.filter_cons_of_neg (by rw [decide_eq_false h]; exact Bool.false_ne_true)
  rw [this]; simp
theorem wantedFrom_le (f : List Nat) (n : Nat) : ∀ k i, i + k ≤ n → wantedFrom f n k i ≤ n
  | 0, _, _ => Nat.le_refl _
  | k + 1, i, h => by
    unfold wantedFrom
    split
    · omega
    · exact wantedFrom_le f n k (i + 1) (by omega)
theorem wanted_le (f : List Nat) (n : Nat) : wanted f n ≤ n := wantedFrom_le f n n 0 (by omega)
noncomputable def toldTo (fs : List (List Nat)) (st : Nat) (n : Nat) : List Int := (List.range n).flatMap fun r => (List.range (wanted (fs.getD r []) st)).map fun (k : Nat) => (r : Int) + (st : Int) * (k : Int)
noncomputable def toldIn (f : List Nat) (st r n : Nat) : List Int := (List.range n).map fun (k : Nat) => (r : Int) + (st : Int) * (k : Int)
theorem toldTo_succ (fs : List (List Nat)) (st n : Nat) : toldTo fs st (n + 1) = toldTo fs st n ++ toldIn (fs.getD n []) st n (wanted (fs.getD n []) st) := by
  unfold toldTo toldIn
  rw [List.range_succ, List.flatMap_append]
  simp
theorem toldIn_succ (f : List Nat) (st r n : Nat) : toldIn f st r (n + 1) = toldIn f st r n ++ [(r : Int) + (st : Int) * (n : Int)] := by
  unfold toldIn
  rw [List.range_succ, List.map_append]; rfl
theorem toldTo_len {fs : List (List Nat)} {st : Nat} (hs : st < 20) : ∀ n, (toldTo fs st n).length ≤ 20 * n
  | 0 => Nat.le_refl _
  | n + 1 => by
    rw [toldTo_succ, List.length_append]
    have h1 := toldTo_len (fs := fs) hs n
    have h2 : (toldIn (fs.getD n []) st n (wanted (fs.getD n []) st)).length = wanted (fs.getD n []) st := by unfold toldIn; rw [List.length_map, List.length_range]
    have h3 := wanted_le (fs.getD n []) st
    omega
theorem front_ok {x z : Str} (hx : Brackets x) (hxl : x.length ≤ 500) {ts : List Str} {n : Nat} (hts : ts.map (fun z => z.cps.toList) = frontsTo x.cps.toList n) (hz : z ∈ ts) : Brackets z ∧ z.length ≤ 500 := by
  have hm : z.cps.toList ∈ frontsTo x.cps.toList n := hts ▸ List.mem_map_of_mem hz
  obtain ⟨i, _, e⟩ := List.mem_map.mp hm
  have hl : z.length ≤ 500 := by
    have : z.cps.toList.length ≤ x.cps.toList.length := by rw [← e, List.length_take]; omega
    rw [Array.length_toList, Array.length_toList] at this
    exact Nat.le_trans this hxl
  refine ⟨⟨fun c hc => hx.1 c ?_, by omega⟩, hl⟩
  have h2 : c ∈ z.cps.toList := by simpa using hc
  rw [← e] at h2
  have := List.mem_of_mem_take h2
  simpa using this
theorem strs_at {vs : List Value} {ys : List Str} (h : StrsAre vs ys) {i : Nat} (hi : i < ys.length) : ∃ t, vs[i]? = some (.str ys[i] t) := h.get i _ (List.getElem?_eq_getElem hi)
theorem offs3 {a b c I : Addr} {oa ob oc : Obj} (ha : a ≠ I) (hb : b ≠ I) (hc : c ≠ I) : ∀ p ∈ [(a, oa), (b, ob), (c, oc)], p.1 ≠ I := by
  intro p hp
  rcases List.mem_cons.mp hp with rfl | hp
  · exact ha
  · rcases List.mem_cons.mp hp with rfl | hp
    · exact hb
    · rw [List.mem_singleton.mp hp]; exact hc
theorem offs4 {a b c d I : Addr} {oa ob oc od : Obj} (ha : a ≠ I) (hb : b ≠ I) (hc : c ≠ I) (hd : d ≠ I) : ∀ p ∈ [(a, oa), (b, ob), (c, oc), (d, od)], p.1 ≠ I := by
  intro p hp
  rcases List.mem_cons.mp hp with rfl | hp
  · exact ha
  · exact offs3 hb hc hd p hp
theorem ints_app {vs : List Value} {ns ms : List Int} {k : Int} {t : Tok} (h : IntsAre vs ns) (e : ms = ns ++ [k]) : IntsAre (vs ++ [.int k t]) ms := e ▸ IntsAre.append h (.cons k t .nil)
local macro_rules | `(tactic| walk_at "exec For Tuple Call cons nil") => `(tactic| (k_here; k_dflt (refine wpAny_For ?_ (by intro _; with_unfolding_all rfl))))
local macro_rules | `(tactic| walk_at "CompSrcT") => `(tactic| refine Brk.go ?_)
local macro_rules | `(tactic| walk_at "CompEnd") => `(tactic| refine Brk.go ?_)
set_option pp.deepTerms false
set_option pp.deepTerms.threshold 6
set_option maxRecDepth 100000 in
set_option maxHeartbeats 4000000 in
theorem told_spec {w : World} {mean : ExcName → Option Value} {mg mb : Str → Option Value} {dp un : Nat} {fr : Option (List Env)} {gd : Option (List Code)} {s : Shared} {Q E : Value → Shared → Prop} {x : Str} {st : Nat} {t t2 : Tok}
    (X : (hd.heap_1 w.params).In s.heap) (T : Top qv LO mean mg mb s.heap) (hA : dp + 15 < recursionLimit) (hx : Brackets x) (hxl : x.length ≤ 500) (hs : 0 < st ∧ st < 20) (hst : (toldL (frontsOf x.cps.toList) st).length < 64) (hgs : ∀ g ∈ s.gens, g.bare = true)
    (hret : ∀ D ns ys e h' tk' gs', Kp s.heap h' → s.heap.get? D = none → h'.get? D = some (seqObj "list" ys.toArray e) → IntsAre ys ns → ns.Perm (toldL (frontsOf x.cps.toList) st) → ns.Pairwise (· ≤ ·) → (∀ g ∈ gs', g.bare = true) → Q (.ref D) { s with heap := h', toks := tk', gens := gs' }) :
    wpAny (model PySem.Challenge.rw_rw0080_01.row.prog w) { handled := none, depth := dp, frames := fr, guards := gd, units := un } (call (.ref 169) [.str x t, .int (st : Int) t2]) Q E s := by
  revert X; k_fill; intro X
  refine enterC X T (by show dp < _; exact room 0 hA) (by k_is) (by k_is) (BindsTo.of_eq rfl) rfl (by decide +kernel) rfl rfl rfl ?_
  intro L h tk cells F N Y'
  k_cells Y'; (try simp only [List.cons_append, List.nil_append] at N); (try dsimp only); (try k_fold)
  replace F := Fr.congr F (m' := mapOf [(Str.ofString "step", some (.int (st : Int) t2))]) (by exact bindL_map _ (List.forall_mem_cons.mpr ⟨rfl, fun _ h => nomatch h⟩) rfl)
  rename_i oC dC
  ((try (with_reducible show wpAny _ _ _ _ _ _)); (try k_fold))
  k_steps
  rename_i h8 tk8 u1 u2 u3 hR F8 N8 kp8
  refine Brk.mk ?_
  refine LCt.CompSrcT.range (n := x.length) rfl F8 N8 hR (small_of hxl) (by rw [rangeSize_nat]; simp) (by rw [PySem.sizeLine_eq]; omega) fun g => ?_
  refine compT_ind _ _ (fun i ys => ∃ ts, StrsAre ys ts ∧ ts.map (fun z => z.cps.toList) = frontsTo x.cps.toList i ∧ ys.length ≤ i) ⟨[], .nil, rfl, Nat.le_refl _⟩ ?_ ?_
  · rintro ys ⟨ts, hys, hts, hyl⟩
    (try dsimp only)
    have hysl := hys.length
    ((try (with_reducible show wpAny _ _ _ _ _ _)); (try k_fold))
    k_steps
    rename_i hys D9 h9 tk9 hD9 lB h10 l10 h11 F11 N11 h12 tk12 w1 w2 w3 hR12 F12 N12 kp12
    have hst : (toldTo (frontsTo x.cps.toList x.length) st (frontsTo x.cps.toList x.length).length).length < 64 := hst
    generalize hfs : frontsTo x.cps.toList x.length = fs at *
    have hfl : fs.length = ts.length := by rw [← hts, List.length_map]
    have hDB : @Ne Nat D9 lB := Nat.ne_of_lt l10.1
    have hLB : @Ne Nat (L + 1) lB := Nat.ne_of_lt l10.2
    refine Brk.mk ?_
    refine for_range (n := ts.length) (m := mapOf [(Str.ofString "k", none), (Str.ofString "rest", none), (Str.ofString "beads", some (.ref lB)), (Str.ofString "fronts", some (.ref D9)), (Str.ofString "step", some (.int (st : Int) t2))])
      (fun r m news gs => ∃ (u1 u2 : Option Value) (zs : List Value) (e : Nat), m = mapOf [(Str.ofString "k", u1), (Str.ofString "rest", u2), (Str.ofString "beads", some (.ref lB)), (Str.ofString "fronts", some (.ref D9)), (Str.ofString "step", some (.int (st : Int) t2))] ∧
        news = [(lB, W.listOf zs.toArray e), (D9, LCg.lst ys), (L + 1, oC)] ∧ IntsAre zs (toldTo fs st r) ∧ (∀ g ∈ gs, g.bare = true))
      rfl rfl rfl rfl hR12 (small_of (k := 500) (by omega)) (by omega) (Fr.congr F12 (by walk_at "MAP")) N12 ⟨_, _, [], 0, rfl, rfl, .nil, hgs⟩ ?_ ?_
    · rintro r tr m' news' h' tk' gs' I oI hr hJ0 F' N' off
      (try (with_reducible show wpAny _ _ _ _ _ _)); (try k_fold)
      obtain ⟨u1, u2, zs, e, rfl, rfl, hzs, hb'⟩ := hJ0
      rw [Int.zero_add] at F'
      have hBI : @Ne Nat lB I := off (lB, W.listOf zs.toArray e) (List.mem_cons_self ..)
      have hDI : @Ne Nat D9 I := off (D9, LCg.lst ys) (List.mem_cons_of_mem _ (List.mem_cons_self ..))
      have hCI : @Ne Nat (L + 1) I := off (L + 1, oC) (List.mem_cons_of_mem _ (List.mem_cons_of_mem _ (List.mem_cons_self ..)))
      have hge : ts.getD ((r : Int)).toNat Str.empty = ts[r] := by
        rw [Int.toNat_natCast, List.getD_eq_getElem?_getD, List.getElem?_eq_getElem hr]; rfl
      have hz := front_ok hx hxl (hts.trans hfs.symm) (List.getElem_mem hr)
      have hzf : (ts[r]).cps.toList = fs.getD r [] := by
        rw [← hts, List.getD_eq_getElem?_getD, List.getElem?_map, List.getElem?_eq_getElem hr]; rfl
      rw [← hge] at hz hzf
      (try dsimp only at F' N' ⊢)
      ((try (with_reducible show wpAny _ _ _ _ _ _)); (try k_fold))
      k_steps
      refine Brk.mk ?_
      refine wanted_spec (X.keeps F'.keep) (T.keeps F'.keep) (room 11 hA) hz.1 hz.2 (Nat.le_of_lt hs.2) hb' fun h5 tk5 gs5 t5 kp5 hb5 => ?_
      rw [hzf]
      have hwl := wanted_le (fs.getD r []) st
      generalize hwd : wanted (fs.getD r []) st = wn at *
      have F5 := F'.keeps kp5
      have N5 := N'.grown kp5
      clear F' N'
      (try dsimp only at F5 N5 ⊢)
      ((try (with_reducible show wpAny _ _ _ _ _ _)); (try k_fold))
      k_steps
      rename_i h6 tk6 x1 x2 x3 hR6 F6 N6 kp6
      refine Brk.mk ?_
      refine for_range (n := wn) (m := mapOf [(Str.ofString "k", u1), (Str.ofString "rest", some (.int (r : Int) tr)), (Str.ofString "beads", some (.ref lB)), (Str.ofString "fronts", some (.ref D9)), (Str.ofString "step", some (.int (st : Int) t2))])
        (fun k m news gs => ∃ (u1 : Option Value) (zs : List Value) (e : Nat), m = mapOf [(Str.ofString "k", u1), (Str.ofString "rest", some (.int (r : Int) tr)), (Str.ofString "beads", some (.ref lB)), (Str.ofString "fronts", some (.ref D9)), (Str.ofString "step", some (.int (st : Int) t2))] ∧
          news = [(I, oI), (lB, W.listOf zs.toArray e), (D9, LCg.lst ys), (L + 1, oC)] ∧ IntsAre zs (toldTo fs st r ++ toldIn (fs.getD r []) st r k) ∧ (∀ g ∈ gs, g.bare = true))
        rfl rfl rfl rfl hR6 (small_of (k := 500) (by omega)) (by omega) (Fr.congr F6 (by walk_at "MAP")) N6 ⟨_, _, _, rfl, rfl, (by rw [show toldIn (fs.getD r []) st r 0 = [] from rfl, List.append_nil]; exact hzs), hb5⟩ ?_ ?_
      · rintro k tkk m' news' h' tk' gs' I2 oI2 hk hJ0 F' N' off2
        (try (with_reducible show wpAny _ _ _ _ _ _)); (try k_fold)
        obtain ⟨u1, zs, e, rfl, rfl, hzs, hb'⟩ := hJ0
        rw [Int.zero_add] at F'
        have hBI2 : @Ne Nat lB I2 := off2 (lB, W.listOf zs.toArray e) (List.mem_cons_of_mem _ (List.mem_cons_self ..))
        have hDI2 : @Ne Nat D9 I2 := off2 (D9, LCg.lst ys) (List.mem_cons_of_mem _ (List.mem_cons_of_mem _ (List.mem_cons_self ..)))
        have hII2 : @Ne Nat I I2 := off2 (I, oI) (List.mem_cons_self ..)
        have hCI2 : @Ne Nat (L + 1) I2 := off2 (L + 1, oC) (List.mem_cons_of_mem _ (List.mem_cons_of_mem _ (List.mem_cons_of_mem _ (List.mem_cons_self ..))))
        have hzl : zs.length ≤ 20000 := by
          rw [IntsAre.length hzs, List.length_append]
          have h1 := toldTo_len (fs := fs) hs.2 r
          have h2 : (toldIn (fs.getD r []) st r k).length = k := by unfold toldIn; rw [List.length_map, List.length_range]
          omega
        (try dsimp only at F' N' ⊢)
        ((try (with_reducible show wpAny _ _ _ _ _ _)); (try k_fold))
        k_steps
        rename_i F8 N8
        rw [List.push_toArray] at N8
        refine Brk.mk ?_
        exact turn_next F8 N8 (by walk_at "MAP") (fun p hp => hp) (offs4 hII2 hBI2 hDI2 hCI2) trivial ⟨_, _, _, rfl, rfl, ints_app hzs (by rw [toldIn_succ, List.append_assoc]), hb'⟩
      · rintro m' news' h' tk' gs' hJ0 F' N'
        (try (with_reducible show wpAny _ _ _ _ _ _)); (try k_fold)
        obtain ⟨u1, zs, e, rfl, rfl, hzs, hb'⟩ := hJ0
        (try dsimp only at F' N' ⊢)
        ((try (with_reducible show wpAny _ _ _ _ _ _)); (try k_fold))
        k_steps
        refine Brk.mk ?_
        exact turn_next F' N' (by walk_at "MAP") (fun p hp => hp) (offs3 hBI hDI hCI) trivial ⟨_, _, _, _, rfl, rfl, (by rw [toldTo_succ, hwd]; exact hzs), hb'⟩
    · rintro m' news' h' tk' gs' hJ0 F' N'
      (try (with_reducible show wpAny _ _ _ _ _ _)); (try k_fold)
      obtain ⟨u1, u2, zs, e, rfl, rfl, hzs, hb'⟩ := hJ0
      (try dsimp only at F' N' ⊢)
      ((try (with_reducible show wpAny _ _ _ _ _ _)); (try k_fold))
      k_steps
      refine Brk.mk ?_
      refine sorted_N F' N' (News.isList N' (List.mem_cons_self ..)) hzs (by rw [IntsAre.length hzs]; exact hfl ▸ hst) fun h9 vs9 ns9 e9 F9 N9 hI9 hp9 hs9 => ?_
      refine hret _ ns9 vs9 e9 _ _ _ F9.keep ((N9 _ (List.Mem.head _)).2.2) ((N9 _ (List.Mem.head _)).1) hI9 ?_ hs9 hb'
      show ns9.Perm (toldTo (frontsTo x.cps.toList x.length) st (frontsTo x.cps.toList x.length).length)
      rw [hfs, hfl]; exact hp9
  · rintro k i ys hi ⟨ts, hys, hts, hyl⟩ hrec
    refine LCt.CompRestT.succ ?_
    rintro v I oI C' oC' D m' h' tk' E' ⟨ti, rfl⟩ hC' hx' F' N' off' ne'
    rw [Int.zero_add] at *
    have hit := item_open (x := x) hi
    ((try (with_reducible show wpAny _ _ _ _ _ _)); (try k_fold))
    k_steps
    · rename_i hq h5 t5 k5 F5 N5 hl5
      rw [hq] at hit
      have hit2 : x.cps.toList.getD i 0 = 40 := by simpa using hit.symm
      refine Brk.mk ?_
      exact LCg.CompEnd.intro F5 N5 [(L + 1, oC)] (fun p hp => hp) off' trivial (hrec _ ⟨ts ++ [_], strs_snoc hys, by rw [List.map_append, hts, fronts_yes hit2, List.map_cons, List.map_nil, slice_front hi], by rw [List.length_append, List.length_singleton]; omega⟩)
    · rename_i hq
      rw [hq] at hit
      have hit2 : ¬ x.cps.toList.getD i 0 = 40 := by simpa using hit.symm
      refine Brk.mk ?_
      exact LCg.CompEnd.intro F' N' [(L + 1, oC)] (fun p hp => hp) off' trivial (hrec _ ⟨ts, hys, by rw [hts, fronts_no hit2], by omega⟩)
end
section
noncomputable def hide (h : Heap) (l : List Addr) : Heap := ⟨h.objs.mapIdx fun i o => if i ∈ l then { o with data := .freed } else o, h.life⟩
theorem hide_size (h : Heap) (l : List Addr) : (hide h l).objs.size = h.objs.size := by
  unfold hide; simp
theorem hide_get {h : Heap} {l : List Addr} {b : Addr} (hb : b ∉ l) : (hide h l).get? b = h.get? b := by
  unfold hide Heap.get?
  simp only [Array.getElem?_mapIdx]
  cases e : h.objs[b]? with
  | none => rfl
  | some o => simp only [Option.map_some, if_neg hb]
theorem hide_none {h : Heap} {l : List Addr} {b : Addr} (hb : b ∈ l) : (hide h l).get? b = none := by
  unfold hide Heap.get?
  simp only [Array.getElem?_mapIdx]
  cases e : h.objs[b]? with
  | none => rfl
  | some o => simp only [Option.map_some, if_pos hb]
theorem hide_some {h : Heap} {l : List Addr} {b : Addr} {o : Obj} (e : (hide h l).get? b = some o) : b ∉ l ∧ h.get? b = some o := by
  by_cases hb : b ∈ l
  · rw [hide_none hb] at e; cases e
  · exact ⟨hb, hide_get hb ▸ e⟩
theorem hide_of {h₀ h : Heap} {l : List Addr} (hk : ∀ b o, h₀.get? b = some o → h.get? b = some o) (hl : ∀ a ∈ l, h₀.get? a = none) : ∀ b o, h₀.get? b = some o → (hide h l).get? b = some o := fun b o e => by
  rw [hide_get fun hm => by rw [hl b hm] at e; cases e]; exact hk b o e
section
variable {w : World} {mean : ExcName → Option Value} {mg mb : Str → Option Value} {A : Around} {s : Shared} {R : Result → Shared → Prop} {h₀ : Heap} {L : Addr} {m : Str → Option Value} {news : List (Addr × Obj)}
  {name qual : Str} {params : Arguments} {body : List Stmt} {scope : Scope} {dV kV doc pm cdv ct oc : Value} {an od : Option Addr} {osl : Array (Option Value)} {f : Addr} {args : List Value} {binds : List (Str × Value)}
theorem enterH (X : (hd.heap_1 w.params).In h₀) (T : Top qv LO mean mg mb h₀) (hk0 : Kp h₀ s.heap) (hn : ∀ p ∈ news, s.heap.get? p.1 = some p.2 ∧ h₀.get? p.1 = none) (hroom : A.depth < recursionLimit)
    (ho : (hd.heap_1 w.params).lookup f = some ⟨oc, od, .func (fnOf name qual params body scope dV kV doc pm an cdv ct), osl⟩) (hcd : codeIn (hd.heap_1 w.params) cdv qual = true)
    (l : List (Str × Option Value)) (hbind : BindsTo s (fnOf name qual params body scope dV kV doc pm an cdv ct) ⟨args, []⟩ binds) (hbl : binds.reverse.map (fun p => (p.1, some p.2)) = l) (hloc : ∀ y ∈ binds, scope.names.lookup y.1 = some .local)
    (hcell : ∀ x ∈ scope.names, x.2 ≠ .cell) (hco : scope.isCoroutine = false) (hgen : scope.isGenerator = false) (hk : scope.kind = .function)
    (h : ∀ g L' h₁ tk, g = hide s.heap (news.map (·.1)) → L' = s.heap.objs.size → (hd.heap_1 w.params).In g → Top qv LO mean mg mb g → Fr g L' h₁ (mapOf l) → News g L' h₁ news →
      wpAny (model PySem.Challenge.rw_rw0080_01.row.prog w) (A.deeper (envOf qual scope L' f cdv)) (execs body (envOf qual scope L' f cdv)) (fun fl s' => R (.ok (.ret (match fl with | .ret v => v | _ => .none))) s') (fun _ _ => False) { s with heap := h₁, toks := tk }) :
    codeAny (model PySem.Challenge.rw_rw0080_01.row.prog w) A (.call (.ref f) ⟨args, []⟩) R s := by
  have Xs := X.keeps hk0
  have Ts := T.keeps hk0
  have hh := hide_of hk0 (l := news.map (·.1)) fun a ha => by
    obtain ⟨p, hp, rfl⟩ := List.mem_map.mp ha
    exact (hn p hp).2
  refine codeAny_call_def (fd := fnOf name qual params body scope dV kV doc pm an cdv ct) (body := body) (binds := binds) hroom (Xs _ _ ho) rfl Ts.nolimit (codeRec_of Xs hcd) rfl hbind hcell hloc (fun h₁ hns hk₁ => ?_) hco hgen hk
  refine wpAny_mono (h (hide s.heap (news.map (·.1))) s.heap.objs.size h₁ _ rfl rfl (X.keeps hh) (T.keeps hh) (Fr.congr ⟨hns, fun b o e => hk₁ b o (hide_some e).2, Nat.le_of_eq (hide_size ..)⟩ (lookup_mapOf hbl)) ?_) (fun fl s' hq => hq) (fun _ _ e => e.elim)
  intro p hp
  have hs := (hn p hp).1
  exact ⟨hk₁ _ _ hs, Nat.ne_of_lt (Heap.lt_size hs), hide_none (List.mem_map_of_mem hp)⟩
/-- back in the caller: all that is not of the ledger is kept -/
theorem hide_back {h h' : Heap} {L' : Addr} {m' : Str → Option Value} {l : List Addr} (F : Fr (hide h l) L' h' m') : ∀ b o, b ∉ l → h.get? b = some o → h'.get? b = some o := fun b o hb e => F.keep b o (by rw [hide_get hb]; exact e)
theorem back_kp {h h' : Heap} {L' : Addr} {m' : Str → Option Value} (F : Fr (hide h (news.map (·.1))) L' h' m') {news' : List (Addr × Obj)} (N : News (hide h (news.map (·.1))) L' h' news') (hn : ∀ p ∈ news, h.get? p.1 = some p.2) (sub : ∀ p ∈ news, p ∈ news') : Kp h h' := by
  intro b o e
  by_cases hb : b ∈ news.map (·.1)
  · obtain ⟨p, hp, rfl⟩ := List.mem_map.mp hb
    have := hn p hp
    rw [this] at e; cases e
    exact (N p (sub p hp)).1
  · exact hide_back F b o hb e
theorem back_news {h h' : Heap} {L' : Addr} {m' : Str → Option Value} {l : List Addr} {news' : List (Addr × Obj)} (F : Fr h₀ L h m) (hL : L ∉ l) (hl : ∀ a ∈ l, h₀.get? a = none) (F' : Fr (hide h l) L' h' m') (N' : News (hide h l) L' h' news') : Fr h₀ L h' m ∧ News h₀ L h' news' := by
  have hh := hide_of F.keep hl
  refine ⟨⟨F.ns.at' fun o e => hide_back F' _ o hL e, fun b o e => F'.keep b o (hh b o e), F.above⟩, fun p hp => ⟨(N' p hp).1, ?_, ?_⟩⟩
  · rintro rfl
    obtain ⟨oL, _, _, hgL, _⟩ := F.ns
    have := (N' p hp).2.2
    rw [hide_get hL, hgL] at this
    cases this
  · cases q : h₀.get? p.1 with
    | none => rfl
    | some o => have := hh _ _ q; rw [(N' p hp).2.2] at this; cases this
end
section
variable {prog : Program} {w : World} {A : Around} {s : Shared} {h₀ : Heap} {L : Addr} {env : Env} {m : Str → Option Value} {news : List (Addr × Obj)}
theorem for_str {x : Str} {px : Pos} {body orelse : List Stmt} {R : Result → Shared → Prop} {E : Value → Shared → Prop} {z : Str} {tz : Tok}
    (J : Nat → (Str → Option Value) → List (Addr × Obj) → Array GenState → Prop)
    (hx : env.kindOf x = some .local) (hp : (env.scope.kind == .class || (env.scope.kind == .module && env.locals != env.globals)) = false) (hL : env.locals = L)
    (hh : A.handled = none) (ha : z.cps.all (· < 128) = true)
    (F : Fr h₀ L s.heap m) (N : News h₀ L s.heap news) (hj : J 0 m news s.gens)
    (turn : ∀ (i : Nat) c t m news h tk gs (I : Addr) oI, z.cps[i]? = some c → J i m news gs → Fr h₀ L h (fun y => if y = x then some (.str ⟨#[c]⟩ t) else m y) → News h₀ L h ((I, oI) :: news) → (∀ p ∈ news, p.1 ≠ I) →
      wpAny (model prog w) A (execs body env) (TurnEnd h₀ L s I oI (fun _ => True) (J (i + 1)) fun f s' => R (.ok f) s') (fun _ _ => False) { s with heap := h, toks := tk, gens := gs })
    (done : ∀ m news h tk gs, J z.cps.size m news gs → Fr h₀ L h m → News h₀ L h news → wpAny (model prog w) A (execs orelse env) (fun f s' => R (.ok f) s') (fun _ _ => False) { s with heap := h, toks := tk, gens := gs }) :
    wpAny (model prog w) A (pyIter (.str z tz)) (fun it s₂ => codeAny (model prog w) A (.forLoop (.Name x px) it body orelse env) R s₂) E s := by
  refine wpAny_pyIter_ascii ha ?_
  refine for_W J hx hp hL (Walks.strAscii hh s.heap.objs.size z tz) (fun i h st => let ⟨o, e, _⟩ := st; ⟨o, e⟩) (S := fun _ => True) ?_ ?_
    (F.keeps fun _ _ e => Heap.get?_push_of_some _ e) (N.grown fun _ _ e => Heap.get?_push_of_some _ e) (Nat.ne_of_lt F.ns.lt) (next_is_new F) (fun p hp => Nat.ne_of_lt (Heap.lt_size (N p hp).1)) trivial
    ⟨_, Heap.get?_push_size _ rfl, rfl, rfl⟩ hj ?_ ?_
  · rintro i h h' o nw ⟨o1, e1, r⟩ ho ho' _ _ _
    rw [ho] at e1; cases e1
    exact ⟨_, ho', r⟩
  · exact fun hm => Nat.ne_of_lt F.ns.lt (List.mem_singleton.mp hm)
  · rintro i v m' news' h tk gs oI hi ⟨c, u, hc, rfl⟩ hj' F' N' off' _
    exact turn i c u m' news' h tk gs _ oI hc hj' F' N' off'
  · intro m' news' h tk gs hj' F' N' off'
    exact done m' news' h tk gs hj' F' N'
end
end
section
structure WSt where
  n : Nat
  b : Nat
  nt : Nat
  cnt : List Int
noncomputable def wsPad (cnt : List Int) (b : Nat) : List Int := if cnt.length ≤ b then cnt ++ List.replicate (b - cnt.length + 1) 0 else cnt
noncomputable def wsStep (s : WSt) (c : Nat) : WSt :=
  if c = 32 then { s with n := s.n + 1, b := s.b + 1 }
  else { n := s.n + 1, b := 0, nt := s.nt + 1, cnt := (wsPad s.cnt s.b).set s.b ((wsPad s.cnt s.b).getD s.b 0 + 1) }
noncomputable def wsRun (l : List Nat) : WSt := l.foldl wsStep ⟨0, 0, 0, []⟩
theorem run_take {x : Str} {i c : Nat} (h : x.cps[i]? = some c) : wsRun (x.cps.toList.take (i + 1)) = wsStep (wsRun (x.cps.toList.take i)) c := by
  unfold wsRun
  have h2 : x.cps.toList[i]? = some c := by simpa using h
  rw [List.take_add_one, h2, List.foldl_append]
  rfl
theorem wsPad_len (cnt : List Int) (b : Nat) : (wsPad cnt b).length = max cnt.length (b + 1) := by
  unfold wsPad
  split
  · rw [List.length_append, List.length_replicate]; omega
  · omega
theorem run_bd : ∀ l : List Nat, (wsRun l).n ≤ l.length ∧ (wsRun l).b ≤ l.length ∧ (wsRun l).nt ≤ l.length ∧ (wsRun l).cnt.length ≤ l.length := by
  have key : ∀ (l : List Nat) (s : WSt) (k : Nat), s.n ≤ k → s.b ≤ k → s.nt ≤ k → s.cnt.length ≤ k → (l.foldl wsStep s).n ≤ k + l.length ∧ (l.foldl wsStep s).b ≤ k + l.length ∧ (l.foldl wsStep s).nt ≤ k + l.length ∧ (l.foldl wsStep s).cnt.length ≤ k + l.length := by
    intro l
    induction l with
    | nil => intro s k h1 h2 h3 h4; exact ⟨h1, h2, h3, h4⟩
    | cons c l ih =>
      intro s k h1 h2 h3 h4
      have := ih (wsStep s c) (k + 1)
      unfold wsStep at this ⊢
      rw [List.foldl_cons, List.length_cons]
      by_cases hc : c = 32
      · simp only [hc, if_true] at this ⊢
        have := this (by omega) (by omega) (by omega) (by omega)
        simpa [wsStep, Nat.add_assoc, Nat.add_comm 1] using this
      · simp only [hc, if_false] at this ⊢
        have := this (by omega) (by omega) (by omega) (by rw [List.length_set, wsPad_len]; omega)
        simpa [wsStep, hc, Nat.add_assoc, Nat.add_comm 1] using this
  intro l
  have := key l ⟨0, 0, 0, []⟩ 0 (Nat.le_refl _) (Nat.le_refl _) (Nat.le_refl _) (Nat.le_refl _)
  rw [Nat.zero_add] at this
  exact this
theorem pad_eq (cnt : List Int) (b : Nat) (h : cnt.length ≤ b) : cnt ++ (List.replicate ((b : Int) - (cnt.length : Int) + 1).toNat [0]).flatten = wsPad cnt b := by
  have e : ((b : Int) - (cnt.length : Int) + 1).toNat = b - cnt.length + 1 := by omega
  unfold wsPad
  rw [if_pos h, e]
  congr 1
  generalize b - cnt.length + 1 = k
  induction k with
  | zero => rfl
  | succ k ih => rw [List.replicate_succ, List.flatten_cons, ih]; rfl
theorem step_tab (S : WSt) : (wsStep S 9).cnt = (wsPad S.cnt S.b).set ((S.b : Int)).toNat ((wsPad S.cnt S.b).getD ((S.b : Int)).toNat 0 + 1) := by
  rw [Int.toNat_natCast]; rfl
theorem pad_no {cnt : List Int} {b : Nat} (h : ¬ cnt.length ≤ b) : wsPad cnt b = cnt := if_neg h
theorem off3' {a b c I : Addr} {oa ob oc : Obj} (ha : a ≠ I) (hb : b ≠ I) (hc : c ≠ I) : ∀ p ∈ [(a, oa), (b, ob), (c, oc)], p.1 ≠ I := by
  intro p hp
  rcases List.mem_cons.mp hp with rfl | hp
  · exact ha
  · rcases List.mem_cons.mp hp with rfl | hp
    · exact hb
    · rw [List.mem_singleton.mp hp]; exact hc
noncomputable def wsObj (w : World) (x : Str) (t k1 k2 k3 k4 k5 t1 t2 : Tok) (S : WSt) (tN : Addr) (sm : Bool) : Obj :=
  dictOf [{ hash := PyData.keyHash w.params (Str.ofString "raw"), key := Value.str (Str.ofString "raw") k1, val := Value.str x t },
    { hash := PyData.keyHash w.params (Str.ofString "n"), key := Value.str (Str.ofString "n") k2, val := Value.int (S.n : Nat) t2 },
    { hash := PyData.keyHash w.params (Str.ofString "nt"), key := Value.str (Str.ofString "nt") k3, val := Value.int (S.nt : Nat) t1 },
    { hash := PyData.keyHash w.params (Str.ofString "norm"), key := Value.str (Str.ofString "norm") k4, val := Value.ref tN },
    { hash := PyData.keyHash w.params (Str.ofString "is_simple"), key := Value.str (Str.ofString "is_simple") k5, val := Value.bool sm }] 5
noncomputable def tupObj (vs : List Value) : Obj := { cls := Value.type "tuple", data := Data.seq vs.toArray }
/-- an object of the class, as it lies -/
structure WsAt (w : World) (h : Heap) (a dx tN tC : Addr) (S : WSt) : Prop where
  inst : h.get? a = some (instObj 112 dx)
  dict : ∃ x t k1 k2 k3 k4 k5 t1 t2 sm, h.get? dx = some (wsObj w x t k1 k2 k3 k4 k5 t1 t2 S tN sm)
  norm : ∃ t3, h.get? tN = some (tupObj [.ref tC, .int (S.b : Nat) t3])
  cnt : ∃ cs, h.get? tC = some (tupObj cs) ∧ IntsAre cs S.cnt
  apart : (@Ne Nat dx a) ∧ (@Ne Nat tN a) ∧ (@Ne Nat tC a) ∧ (@Ne Nat tN dx) ∧ (@Ne Nat tC dx) ∧ (@Ne Nat tC tN)
theorem WsAt.keeps {w : World} {h h' : Heap} {a dx tN tC : Addr} {S : WSt} (W : WsAt w h a dx tN tC S) (k : ∀ b o, h.get? b = some o → h'.get? b = some o) : WsAt w h' a dx tN tC S where
  inst := k _ _ W.inst
  dict := let ⟨x, t, k1, k2, k3, k4, k5, t1, t2, sm, e⟩ := W.dict; ⟨x, t, k1, k2, k3, k4, k5, t1, t2, sm, k _ _ e⟩
  norm := let ⟨t3, e⟩ := W.norm; ⟨t3, k _ _ e⟩
  cnt := let ⟨cs, e, i⟩ := W.cnt; ⟨cs, k _ _ e, i⟩
  apart := W.apart
local macro_rules | `(tactic| walk_at "call type:tuple") => `(tactic| refine Brk.go ?_)
local macro_rules | `(tactic| walk_at "pyIter str") => `(tactic| refine Brk.go ?_)
local macro_rules | `(tactic| walk_at "exec For Name Attribute cons nil") => `(tactic| (k_here; k_dflt (refine wpAny_For ?_ (by intro _; with_unfolding_all rfl))))
set_option pp.deepTerms false
set_option pp.deepTerms.threshold 6
theorem run_room (l : List Nat) (h : l.length ≤ 1000) : (wsRun l).n < 2000 ∧ (wsRun l).b < 2000 ∧ (wsRun l).nt < 2000 ∧ (wsRun l).cnt.length < 2000 := by
  have := run_bd l
  omega
set_option maxRecDepth 100000 in
set_option maxHeartbeats 4000000 in
noncomputable def wsP (ps : Params) : { q : List Stmt × Scope // ∃ oc od name params dV kV doc pm an ct osl, (hd.heap_1 ps).lookup 67 = some ⟨oc, od, .func (fnOf name (Str.ofString "Whitespace.__init__") params q.1 q.2 dV kV doc pm an (.ref 66) ct), osl⟩ } := by
  have e : PySem.Challenge.rw_rw0080_01 = PySem.Challenge.rw_rw0080_01 := rfl
  revert e; k_fill; intro _
  exact ⟨(_, _), _, _, _, _, _, _, _, _, _, _, _, by k_is⟩
noncomputable def wsL (u : Option Value) (S : WSt) (t1 t2 t3 : Tok) (lC : Addr) (x : Str) (t : Tok) (a : Addr) : List (Str × Option Value) := [(Str.ofString "ch", u), (Str.ofString "nt", some (.int (S.nt : Nat) t1)), (Str.ofString "n", some (.int (S.n : Nat) t2)), (Str.ofString "b", some (.int (S.b : Nat) t3)), (Str.ofString "count", some (.ref lC)), (Str.ofString "S", some (.str (Str.ofString " ") 286)), (Str.ofString "T", some (.str (Str.ofString "\t") 287)), (Str.ofString "ws", some (.str x t)), (Str.ofString "self", some (.ref a))]
noncomputable def forBody : List Stmt → List Stmt
  | .For _ _ b _ _ :: _ => b
  | _ :: r => forBody r
  | [] => []
set_option maxRecDepth 100000 in
set_option maxHeartbeats 4000000 in
theorem ws_turn {w : World} {mean : ExcName → Option Value} {mg mb : Str → Option Value} {dp un : Nat} {fr : Option (List Env)} {gd : Option (List Code)} {gs : Array GenState} {g : Heap} {L a dx lC I : Addr} {oX oI : Obj} {x : Str} {t t1 t2 t3 tc : Tok} {cs : List Value} {e c tk : Nat} {S : WSt} {u : Option Value} {h : Heap} {s : Shared}
    {J : (Str → Option Value) → List (Addr × Obj) → Array GenState → Prop} {Q : Flow → Shared → Prop}
    (X : (hd.heap_1 w.params).In g) (T : Top qv LO mean mg mb g) (hc : c = 32 ∨ c = 9) (hcs : IntsAre cs S.cnt) (b1 : S.n < 2000) (b2 : S.b < 2000) (b3 : S.nt < 2000) (b4 : S.cnt.length < 2000)
    (hCa : @Ne Nat lC a) (hCd : @Ne Nat lC dx) (hda : @Ne Nat dx a) (hCI : @Ne Nat lC I) (haI : @Ne Nat a I) (hdI : @Ne Nat dx I)
    (F : Fr g L h (fun y => if y = Str.ofString "ch" then some (.str ⟨#[c]⟩ tc) else mapOf (wsL u S t1 t2 t3 lC x t a) y))
    (N : News g L h [(I, oI), (lC, W.listOf cs.toArray e), (a, instObj 112 dx), (dx, oX)])
    (hJ : ∀ (u : Option Value) (t1 t2 t3 : Tok) (lC : Addr) (cs : List Value) (e : Nat), IntsAre cs (wsStep S c).cnt → (@Ne Nat lC a) → (@Ne Nat lC dx) → J (mapOf (wsL u (wsStep S c) t1 t2 t3 lC x t a)) [(lC, W.listOf cs.toArray e), (a, instObj 112 dx), (dx, oX)] gs) :
    wpAny (model PySem.Challenge.rw_rw0080_01.row.prog w) (Around.deeper { handled := none, depth := dp, frames := fr, guards := gd, units := un } (envOf (Str.ofString "Whitespace.__init__") (wsP w.params).1.2 L 67 (.ref 66))) (execs (forBody (wsP w.params).1.1) (envOf (Str.ofString "Whitespace.__init__") (wsP w.params).1.2 L 67 (.ref 66))) (TurnEnd g L s I oI (fun _ => True) J Q) (fun _ _ => False) { s with heap := h, toks := tk, gens := gs } := by
  revert X; k_fill; intro X
  dsimp only [wsP, forBody]
  k_fold
  have hcl := IntsAre.length hcs
  rcases hc with rfl | rfl
  · k_steps
    rename_i h5 F5 N5
    exact turn_next F5 N5 (by walk_at "MAP") (fun p hp => hp) (off3' hCI haI hdI) trivial (hJ _ _ _ _ lC cs e hcs hCa hCd)
  · k_steps
    · rename_i D5 ws5 h51 hI5 l5 h52 t5 h53 hi5 hl5 hs5 h5 F5 N5
      have hle : S.cnt.length ≤ S.b := by omega
      rw [pad_eq _ _ hle] at hi5 N5
      rw [← step_tab] at hi5
      refine turn_next F5 N5 (by walk_at "MAP") (fun p hp => ?_) (off3' (show @Ne Nat D5 I by omega) haI hdI) trivial (hJ _ _ _ _ D5 _ 0 hi5 (by omega) (by omega))
      rcases List.mem_cons.mp hp with rfl | hp
      · k_mem
      · rcases List.mem_cons.mp hp with rfl | hp
        · k_mem
        · rcases List.mem_cons.mp hp with rfl | hp
          · k_mem
          · rw [List.mem_singleton.mp hp]; k_mem
    · rename_i hnle t5 h53 hi5 hl5 hs5 h5 F5 N5
      have hle : ¬ S.cnt.length ≤ S.b := by omega
      have hst := step_tab S
      rw [pad_no hle] at hst
      rw [← hst] at hi5
      exact turn_next F5 N5 (by walk_at "MAP") (fun p hp => hp) (off3' hCI haI hdI) trivial (hJ _ _ _ _ lC _ _ hi5 hCa hCd)
set_option maxRecDepth 100000 in
set_option maxHeartbeats 4000000 in
theorem ws_body {w : World} {mean : ExcName → Option Value} {mg mb : Str → Option Value} {dp un : Nat} {fr : Option (List Env)} {gd : Option (List Code)} {g : Heap} {L a dx : Addr} {x : Str} {t : Tok} {h2 : Heap} {tk2 : Nat} {s : Shared} {Qd : Flow → Shared → Prop}
    (X2 : (hd.heap_1 w.params).In g) (T2 : Top qv LO mean mg mb g) (hx : ∀ c ∈ x.cps, c = 32 ∨ c = 9) (hxl : x.length ≤ 1000) (hda : @Ne Nat dx a)
    (F2 : Fr g L h2 (mapOf [(Str.ofString "ws", some (.str x t)), (Str.ofString "self", some (.ref a))])) (N2 : News g L h2 [(a, instObj 112 dx), (dx, dictOf [] 0)])
    (hq : ∀ tN D7 h' tk' m', Fr g L h' m' → WsAt w h' a dx tN D7 (wsRun x.cps.toList) → g.get? tN = none → g.get? D7 = none → Qd .next { s with heap := h', toks := tk' }) :
    wpAny (model PySem.Challenge.rw_rw0080_01.row.prog w) (Around.deeper { handled := none, depth := dp, frames := fr, guards := gd, units := un } (envOf (Str.ofString "Whitespace.__init__") (wsP w.params).1.2 L 67 (.ref 66))) (execs (wsP w.params).1.1 (envOf (Str.ofString "Whitespace.__init__") (wsP w.params).1.2 L 67 (.ref 66))) Qd (fun _ _ => False) { s with heap := h2, toks := tk2 } := by
  revert X2; k_fill; intro X2
  dsimp only [wsP]
  k_steps
  rename_i D8 h88 l8 h87 h86 h85 tk8 lC h84 l7 h83 h82 h81 h8 F8 N8
  obtain ⟨oX, hoX, N8'⟩ : ∃ oX, oX = (dictOf [{ hash := PyData.keyHash w.params (Str.ofString "raw"), key := Value.str (Str.ofString "raw") (tk2 + 1), val := Value.str x t }] 1) ∧ News g L h8 [(lC, W.listOf ([] : List Value).toArray 0), (a, instObj 112 dx), (dx, oX)] :=
    ⟨_, rfl, fun p hp => N8 p (by
      rcases List.mem_cons.mp hp with rfl | hp
      · exact List.mem_cons_self ..
      · exact List.mem_cons_of_mem _ (List.mem_cons_of_mem _ hp))⟩
  have hCa : @Ne Nat lC a := by omega
  have hCd : @Ne Nat lC dx := by omega
  have hasc : x.cps.all (· < 128) = true := by
    rw [Array.all_eq_true]
    intro i hi
    rcases hx _ (Array.getElem_mem hi) with h | h <;> rw [h] <;> rfl
  refine Brk.mk ?_
  refine for_str (L := L) (h₀ := g) (m := mapOf [(Str.ofString "ch", none), (Str.ofString "nt", some (.int 0 _)), (Str.ofString "n", some (.int 0 _)), (Str.ofString "b", some (.int 0 _)), (Str.ofString "count", some (.ref lC)), (Str.ofString "S", some (.str (Str.ofString " ") 286)), (Str.ofString "T", some (.str (Str.ofString "\t") 287)), (Str.ofString "ws", some (.str x t)), (Str.ofString "self", some (.ref a))])
    (fun i m news gs => ∃ (u : Option Value) (t1 t2 t3 : Tok) (lC : Addr) (cs : List Value) (e : Nat), m = mapOf [(Str.ofString "ch", u), (Str.ofString "nt", some (.int ((wsRun (x.cps.toList.take i)).nt : Nat) t1)), (Str.ofString "n", some (.int ((wsRun (x.cps.toList.take i)).n : Nat) t2)), (Str.ofString "b", some (.int ((wsRun (x.cps.toList.take i)).b : Nat) t3)), (Str.ofString "count", some (.ref lC)), (Str.ofString "S", some (.str (Str.ofString " ") 286)), (Str.ofString "T", some (.str (Str.ofString "\t") 287)), (Str.ofString "ws", some (.str x t)), (Str.ofString "self", some (.ref a))] ∧
      news = [(lC, W.listOf cs.toArray e), (a, instObj 112 dx), (dx, oX)] ∧ IntsAre cs (wsRun (x.cps.toList.take i)).cnt ∧ gs = s.gens ∧ (@Ne Nat lC a) ∧ (@Ne Nat lC dx))
    rfl rfl rfl rfl hasc (Fr.congr F8 (by walk_at "MAP")) N8' ⟨_, _, _, _, lC, [], 0, rfl, rfl, .nil, rfl, hCa, hCd⟩ ?_ ?_
  · rintro i c tc m' news' h' tk' gs' I oI hc ⟨u, t1, t2, t3, lC', cs, e, rfl, rfl, hcs, rfl, hCa, hCd⟩ F' N' off
    have hil : i < 1000 := Nat.lt_of_lt_of_le (Array.getElem?_eq_some_iff.mp hc).1 hxl
    have hrun : wsRun (x.cps.toList.take (i + 1)) = wsStep (wsRun (x.cps.toList.take i)) c := run_take hc
    obtain ⟨b1, b2, b3, b4⟩ := run_room (x.cps.toList.take i) (Nat.le_trans (List.length_take_le ..) (Nat.le_of_lt hil))
    exact ws_turn (s := { s with heap := h8, toks := _ }) X2 T2 (hx c (Array.mem_of_getElem? hc)) hcs b1 b2 b3 b4 hCa hCd hda (off (lC', W.listOf cs.toArray e) (List.mem_cons_self ..)) (off (a, instObj 112 dx) (List.mem_cons_of_mem _ (List.mem_cons_self ..))) (off (dx, oX) (List.mem_cons_of_mem _ (List.mem_cons_of_mem _ (List.mem_cons_self ..)))) F' N'
      fun u t1 t2 t3 lC cs e h1 h2 h3 => by
        rw [hrun]
        exact ⟨u, t1, t2, t3, lC, cs, e, rfl, rfl, h1, rfl, h2, h3⟩
  · rintro m' news' h' tk' gs' ⟨u, t1, t2, t3, lC', cs, e, rfl, rfl, hcs, rfl, hCa, hCd⟩ F' N'
    rw [List.take_of_length_le (by simp)] at *
    have hbd := run_bd x.cps.toList
    have hll : x.cps.toList.length ≤ 1000 := by rw [Array.length_toList]; exact hxl
    have hcl := IntsAre.length hcs
    subst hoX
    generalize hS : wsRun x.cps.toList = S at *
    dsimp only at F' N' ⊢
    k_steps
    rename_i F6 N6
    refine Brk.mk ?_
    refine kde_tupleOf F6 N6 (News.isList N6 (List.mem_cons_self ..)) (by rw [List.size_toArray]; omega) rfl fun D7 h7 F7 N7 l7 => ?_
    have l71 : @LT.lt Nat _ lC' D7 := l7 (lC', W.listOf cs.toArray e) (List.mem_cons_self ..)
    have l72 : @LT.lt Nat _ a D7 := l7 (a, instObj 112 dx) (List.mem_cons_of_mem _ (List.mem_cons_self ..))
    have l73 : @LT.lt Nat _ dx D7 := l7 (dx, _) (List.mem_cons_of_mem _ (List.mem_cons_of_mem _ (List.mem_cons_self ..)))
    clear l7
    k_steps
    rename_i tN h61 l61 h62 tk62 h63 F9 N9
    have e7 := (N9 (D7, _) (List.mem_cons_of_mem _ (List.mem_cons_self ..))).1
    exact hq tN D7 h63 _ _ F9 ⟨(N9 (a, instObj 112 dx) (by k_mem)).1, ⟨x, t, _, _, _, _, _, _, _, _, (N9 (dx, _) (List.mem_cons_of_mem _ (List.mem_cons_of_mem _ (List.mem_cons_of_mem _ (List.mem_cons_of_mem _ (List.mem_cons_self ..)))))).1⟩, ⟨_, (N9 (tN, _) (List.mem_cons_self ..)).1⟩, ⟨cs, (by simpa [tupObj] using e7), hcs⟩,
      ⟨hda, (by omega), (by omega), (by omega), (by omega), (by omega)⟩⟩ (N9 (tN, _) (List.mem_cons_self ..)).2.2 (N9 (D7, _) (List.mem_cons_of_mem _ (List.mem_cons_self ..))).2.2
set_option maxRecDepth 100000 in
set_option maxHeartbeats 4000000 in
theorem ws_spec {w : World} {mean : ExcName → Option Value} {mg mb : Str → Option Value} {dp un : Nat} {fr : Option (List Env)} {gd : Option (List Code)} {s : Shared} {Q E : Value → Shared → Prop} {x : Str} {t : Tok}
    (X : (hd.heap_1 w.params).In s.heap) (T : Top qv LO mean mg mb s.heap) (hA : dp + 15 < recursionLimit) (hx : ∀ c ∈ x.cps, c = 32 ∨ c = 9) (hxl : x.length ≤ 1000)
    (hret : ∀ a dx tN tC h' tk', Kp s.heap h' → WsAt w h' a dx tN tC (wsRun x.cps.toList) → s.heap.get? a = none → s.heap.get? dx = none → s.heap.get? tN = none → s.heap.get? tC = none → Q (.ref a) { s with heap := h', toks := tk' }) :
    wpAny (model PySem.Challenge.rw_rw0080_01.row.prog w) { handled := none, depth := dp, frames := fr, guards := gd, units := un } (call (.ref 112) [.str x t]) Q E s := by
  obtain ⟨h0, gens0, dr0, tk0, os0⟩ := s
  dsimp only at X T hret
  revert X; k_fill; intro X
  refine wpAny_call ?_
  refine make_core (makes_of X (by k_is)) (looks_findIn X (by k_is)) (fun self => bind_fn X self (beq_iff_eq.mp (show isFn (hd.heap_1 w.params) (.ref 67) = true by k_is))) (.inl rfl) ?_
  have hsz1 : (h0.push emptyDict).objs.size = h0.objs.size + 1 := Heap.size_push ..
  have kp1 : Kp h0 ((h0.push emptyDict).push (instObj 112 h0.objs.size)) := fun b o e => Heap.get?_push_of_some _ (Heap.get?_push_of_some _ e)
  have hg1 : ((h0.push emptyDict).push (instObj 112 h0.objs.size)).get? (h0.objs.size + 1) = some (instObj 112 h0.objs.size) := by
    have := Heap.get?_push_size (h0.push emptyDict) (o := instObj 112 h0.objs.size) rfl
    rw [hsz1] at this; exact this
  have hg2 : ((h0.push emptyDict).push (instObj 112 h0.objs.size)).get? h0.objs.size = some (dictOf [] 0) := Heap.get?_push_of_some _ (Heap.get?_push_size _ rfl)
  have ha0 : h0.get? (h0.objs.size + 1) = none := Heap.get?_none_of_le (Nat.le_succ _)
  have hd0 : h0.get? h0.objs.size = none := Heap.get?_none_of_le (Nat.le_refl _)
  have hn0 : ∀ b, h0.objs.size ≤ b → h0.get? b = none := fun b hb => Heap.get?_none_of_le hb
  have hlt : @LT.lt Nat _ h0.objs.size (h0.objs.size + 1) := Nat.lt_succ_self _
  generalize hH : (h0.push emptyDict).push (instObj 112 h0.objs.size) = H at *
  have hall : ∀ p ∈ [(h0.objs.size + 1, instObj 112 h0.objs.size), (h0.objs.size, dictOf [] 0)], H.get? p.1 = some p.2 ∧ h0.get? p.1 = none :=
    List.forall_mem_cons.mpr ⟨⟨hg1, ha0⟩, List.forall_mem_cons.mpr ⟨⟨hg2, hd0⟩, fun _ h => nomatch h⟩⟩
  generalize hdx : h0.objs.size = dx at *
  generalize haa : dx + 1 = a at *
  refine enterH (news := [(a, instObj 112 dx), (dx, dictOf [] 0)]) X T kp1 hall (by show dp + 1 < _; omega) (by k_is) (by k_is) [(Str.ofString "ws", some (.str x t)), (Str.ofString "self", some (.ref a))] (BindsTo.of_eq rfl) rfl (locs rfl) (by decide) rfl rfl rfl ?_
  intro g L' h2 tk2 hg hL X2 T2 F2 N2
  have hda : @Ne Nat dx a := Nat.ne_of_lt hlt
  refine ws_body (w := w) X2 T2 hx hxl hda F2 N2 fun tN D7 h63 tk63 m9 F9 W9 n1 n2 => ?_
  refine ⟨rfl, ?_⟩
  subst hg
  have kpH : Kp h0 h63 := fun b o e => by
    refine hide_back F9 b o (fun hb => ?_) (kp1 b o e)
    rcases List.mem_cons.mp hb with rfl | hb
    · rw [ha0] at e; cases e
    · rw [List.mem_singleton.mp hb, hd0] at e; cases e
  have hfr : ∀ b, (hide H [a, dx]).get? b = none → h0.get? b = none := fun b hb => by
    cases q : h0.get? b with
    | none => rfl
    | some o =>
      exfalso
      have hb2 : b ∉ [a, dx] := fun hm => by
        rcases List.mem_cons.mp hm with rfl | hm
        · rw [ha0] at q; cases q
        · rw [List.mem_singleton.mp hm, hd0] at q; cases q
      rw [hide_get hb2, kp1 b o q] at hb; cases hb
  exact hret a dx tN D7 h63 _ kpH W9 ha0 hd0 (hfr _ n1) (hfr _ n2)
end
section
noncomputable def wsLong (S : WSt) : Int := max ((S.cnt.length : Int) - 1) (S.b : Int)
noncomputable def ilTo (cnt : List Int) (ts : Nat) : Nat → Int
  | 0 => 0
  | k + 1 => ilTo cnt ts k + (((ts : Int) + (k : Int)).fdiv (ts : Int)) * cnt.getD (ts + k) 0
noncomputable def wsIndent (S : WSt) (ts : Nat) : Int := (S.b : Int) + (ts : Int) * (ilTo S.cnt ts (S.cnt.length - ts) + (S.nt : Int))
theorem ws_all {w : World} {h₀ h : Heap} {a dx tN tC : Addr} {S : WSt} (W : WsAt w h a dx tN tC S) (n1 : h₀.get? a = none) (n2 : h₀.get? dx = none) (n3 : h₀.get? tN = none) (n4 : h₀.get? tC = none) :
    ∃ x t k1 k2 k3 k4 k5 t1 t2 sm t3 cs, (∀ p ∈ [(a, instObj 112 dx), (dx, wsObj w x t k1 k2 k3 k4 k5 t1 t2 S tN sm), (tN, tupObj [.ref tC, .int (S.b : Nat) t3]), (tC, tupObj cs)], h.get? p.1 = some p.2 ∧ h₀.get? p.1 = none) ∧ IntsAre cs S.cnt := by
  obtain ⟨x, t, k1, k2, k3, k4, k5, t1, t2, sm, e2⟩ := W.dict
  obtain ⟨t3, e3⟩ := W.norm
  obtain ⟨cs, e4, hi⟩ := W.cnt
  exact ⟨x, t, k1, k2, k3, k4, k5, t1, t2, sm, t3, cs, List.forall_mem_cons.mpr ⟨⟨W.inst, n1⟩, List.forall_mem_cons.mpr ⟨⟨e2, n2⟩, List.forall_mem_cons.mpr ⟨⟨e3, n3⟩, List.forall_mem_cons.mpr ⟨⟨e4, n4⟩, fun _ h => nomatch h⟩⟩⟩⟩, hi⟩
theorem offs4w {a b c d I : Addr} {oa ob oc od : Obj} (ha : a ≠ I) (hb : b ≠ I) (hc : c ≠ I) (hd : d ≠ I) : ∀ p ∈ [(a, oa), (b, ob), (c, oc), (d, od)], p.1 ≠ I := by
  intro p hp
  rcases List.mem_cons.mp hp with rfl | hp
  · exact ha
  · exact off3' hb hc hd p hp
set_option pp.deepTerms false
set_option pp.deepTerms.threshold 6
set_option maxRecDepth 100000 in
set_option maxHeartbeats 4000000 in
theorem longest_spec {w : World} {mean : ExcName → Option Value} {mg mb : Str → Option Value} {dp un : Nat} {fr : Option (List Env)} {gd : Option (List Code)} {s : Shared} {Q E : Value → Shared → Prop} {h₀ : Heap} {a dx tN tC : Addr} {S : WSt}
    (X : (hd.heap_1 w.params).In h₀) (T : Top qv LO mean mg mb h₀) (hk0 : Kp h₀ s.heap) (hA : dp + 3 < recursionLimit) (W : WsAt w s.heap a dx tN tC S) (n1 : h₀.get? a = none) (n2 : h₀.get? dx = none) (n3 : h₀.get? tN = none) (n4 : h₀.get? tC = none)
    (hb : S.cnt.length ≤ 1000 ∧ S.b ≤ 1000 ∧ S.nt ≤ 1000)
    (hret : ∀ h' tk' t', Kp s.heap h' → Q (.int (wsLong S) t') { s with heap := h', toks := tk' }) :
    wpAny (model PySem.Challenge.rw_rw0080_01.row.prog w) { handled := none, depth := dp, frames := fr, guards := gd, units := un } (call (.ref 74) [.ref a]) Q E s := by
  obtain ⟨x, t, k1, k2, k3, k4, k5, t1, t2, sm, t3, cs, hall, hcs⟩ := ws_all W n1 n2 n3 n4
  revert X; k_fill; intro X
  refine wpAny_call ?_
  refine enterH X T hk0 hall (by show dp < _; omega) (by k_is) (by k_is) [(Str.ofString "self", some (.ref a))] (BindsTo.of_eq rfl) rfl (locs rfl) (by decide) rfl rfl rfl ?_
  intro g L' h2 tk2 hg hL X2 T2 F2 N2
  (try dsimp only); (try k_fold)
  obtain ⟨p1, p2, p3, p4, p5, p6⟩ := W.apart
  have hcl := IntsAre.length hcs
  clear X T
  unfold wsObj tupObj at N2
  have hsz : cs.toArray.size = S.cnt.length := by rw [List.size_toArray]; exact hcl
  ((try (with_reducible show wpAny _ _ _ _ _ _)); (try k_fold))
  k_steps
  rename_i h5 tk5 F5 N5
  have hv : (if (S.b : Int) > (cs.toArray.size : Int) - 1 then (S.b : Int) else (cs.toArray.size : Int) - 1) = wsLong S := by
    rw [hsz]; unfold wsLong
    split <;> omega
  rw [hv]
  subst hg
  exact hret _ _ _ (back_kp F5 N5 (fun p hp => (hall p hp).1) (fun p hp => hp))
set_option maxRecDepth 100000 in
set_option maxHeartbeats 4000000 in
theorem indent_spec {w : World} {mean : ExcName → Option Value} {mg mb : Str → Option Value} {dp un : Nat} {fr : Option (List Env)} {gd : Option (List Code)} {s : Shared} {Q E : Value → Shared → Prop} {h₀ : Heap} {a dx tN tC : Addr} {S : WSt} {ts : Nat} {tt : Tok}
    (X : (hd.heap_1 w.params).In h₀) (T : Top qv LO mean mg mb h₀) (hk0 : Kp h₀ s.heap) (hA : dp + 3 < recursionLimit) (W : WsAt w s.heap a dx tN tC S) (n1 : h₀.get? a = none) (n2 : h₀.get? dx = none) (n3 : h₀.get? tN = none) (n4 : h₀.get? tC = none)
    (hb : S.cnt.length ≤ 1000 ∧ S.b ≤ 1000 ∧ S.nt ≤ 1000) (hts : 1 ≤ ts ∧ ts ≤ 1000)
    (hret : ∀ h' tk' t', Kp s.heap h' → Q (.int (wsIndent S ts) t') { s with heap := h', toks := tk' }) :
    wpAny (model PySem.Challenge.rw_rw0080_01.row.prog w) { handled := none, depth := dp, frames := fr, guards := gd, units := un } (call (.ref 81) [.ref a, .int (ts : Int) tt]) Q E s := by
  obtain ⟨x, t, k1, k2, k3, k4, k5, t1', t2, sm, t3, cs, hall, hcs⟩ := ws_all W n1 n2 n3 n4
  revert X; k_fill; intro X
  refine wpAny_call ?_
  refine enterH X T hk0 hall (by show dp < _; omega) (by k_is) (by k_is) [(Str.ofString "tabsize", some (.int (ts : Int) tt)), (Str.ofString "self", some (.ref a))] (BindsTo.of_eq rfl) rfl (locs rfl) (by decide) rfl rfl rfl ?_
  intro g L' h2 tk2 hg hL X2 T2 F2 N2
  (try dsimp only); (try k_fold)
  obtain ⟨p1, p2, p3, p4, p5, p6⟩ := W.apart
  have hcl := IntsAre.length hcs
  clear X T
  unfold wsObj tupObj at N2
  have hsz : cs.toArray.size = S.cnt.length := by rw [List.size_toArray]; exact hcl
  ((try (with_reducible show wpAny _ _ _ _ _ _)); (try k_fold))
  k_steps
  rename_i h6 tk6 x1 x2 x3 hR6 F6 N6 kp6
  refine Brk.mk ?_
  obtain ⟨Jv, hJv⟩ : ∃ Jv : Nat → (Str → Option Value) → List (Addr × Obj) → Array GenState → Prop, Jv = (fun k m news gs => ∃ (u : Option Value) (t1 : Tok), m = mapOf [(Str.ofString "i", u), (Str.ofString "il", some (.int (ilTo S.cnt ts k) t1)), (Str.ofString "trailing", some (.int (S.b : Nat) t3)), (Str.ofString "count", some (.ref tC)), (Str.ofString "tabsize", some (.int (ts : Int) tt)), (Str.ofString "self", some (.ref a))] ∧
      news = [(a, instObj 112 dx), (dx, wsObj w x t k1 k2 k3 k4 k5 t1' t2 S tN sm), (tN, tupObj [.ref tC, .int (S.b : Nat) t3]), (tC, tupObj cs)] ∧ gs = s.gens) := ⟨_, rfl⟩
  refine for_range (n := S.cnt.length - ts) (m := mapOf [(Str.ofString "i", none), (Str.ofString "il", some (.int 0 _)), (Str.ofString "trailing", some (.int (S.b : Nat) t3)), (Str.ofString "count", some (.ref tC)), (Str.ofString "tabsize", some (.int (ts : Int) tt)), (Str.ofString "self", some (.ref a))])
    Jv
    rfl rfl rfl rfl hR6 (small_one (by omega) (by omega) (by omega) (by omega)) (by omega) (Fr.congr F6 (by walk_at "MAP")) N6 (fam hJv ⟨_, _, rfl, rfl, rfl⟩) ?_ ?_
  · rintro k tk3 m' news' h' tk' gs' I oI hk hJ0 F' N' off
    (try (with_reducible show wpAny _ _ _ _ _ _)); (try k_fold)
    rw [hJv] at hJ0
    obtain ⟨u, t1, rfl, rfl, rfl⟩ := hJ0
    have haI : @Ne Nat a I := off (a, _) (List.mem_cons_self ..)
    have hdI : @Ne Nat dx I := off (dx, _) (List.mem_cons_of_mem _ (List.mem_cons_self ..))
    have hNI : @Ne Nat tN I := off (tN, _) (List.mem_cons_of_mem _ (List.mem_cons_of_mem _ (List.mem_cons_self ..)))
    have hCI : @Ne Nat tC I := off (tC, _) (List.mem_cons_of_mem _ (List.mem_cons_of_mem _ (List.mem_cons_of_mem _ (List.mem_cons_self ..))))
    unfold wsObj tupObj at N'
    (try dsimp only at F' N' ⊢)
    have hq1 : 0 ≤ ((ts : Int) + (k : Int)).fdiv (ts : Int) := by
      rw [Int.fdiv_eq_ediv_of_nonneg _ (by omega)]; exact Int.ediv_nonneg (by omega) (by omega)
    have hq2 : ((ts : Int) + (k : Int)).fdiv (ts : Int) ≤ 3000 := by
      rw [Int.fdiv_eq_ediv_of_nonneg _ (by omega)]; exact Int.le_trans (Int.ediv_le_self _ (by omega)) (by omega)
    ((try (with_reducible show wpAny _ _ _ _ _ _)); (try k_fold))
    k_steps
    rename_i h5 F5 N5
    refine Brk.mk ?_
    have hj : ((ts : Int) + (k : Int)).toNat = ts + k := by omega
    rw [hj] at F5
    exact turn_next F5 N5 (by walk_at "MAP") (fun p hp => hp) (offs4w haI hdI hNI hCI) trivial (fam hJv ⟨_, _, rfl, rfl, rfl⟩)
  · rintro m' news' h' tk' gs' hJ0 F' N'
    (try (with_reducible show wpAny _ _ _ _ _ _)); (try k_fold)
    rw [hJv] at hJ0
    obtain ⟨u, t1, rfl, rfl, rfl⟩ := hJ0
    unfold wsObj tupObj at N'
    (try dsimp only at F' N' ⊢)
    ((try (with_reducible show wpAny _ _ _ _ _ _)); (try k_fold))
    k_steps
    subst hg
    exact hret _ _ _ (back_kp F' N' (fun p hp => (hall p hp).1) (fun p hp => hp))
end
section
noncomputable def witTo (S S2 : WSt) : Nat → List (Int × Int × Int)
  | 0 => []
  | k + 1 => if wsIndent S (k + 1) = wsIndent S2 (k + 1) then witTo S S2 k else witTo S S2 k ++ [(((k + 1 : Nat) : Int), wsIndent S (k + 1), wsIndent S2 (k + 1))]
noncomputable def witN (S S2 : WSt) : Nat := (max (wsLong S) (wsLong S2)).toNat + 1
noncomputable def rowObj (r : Int × Int × Int) (t1 t2 t3 : Tok) : Obj := tupObj [.int r.1 t1, .int r.2.1 t2, .int r.2.2 t3]
structure RowsIn (tups : List (Addr × Obj)) (refs : List Value) (rows : List (Int × Int × Int)) : Prop where
  len : refs.length = rows.length
  row : ∀ (i : Nat) (r : Int × Int × Int), rows[i]? = some r → ∃ (T : Addr) (t1 t2 t3 : Tok), refs[i]? = some (Value.ref T) ∧ (T, rowObj r t1 t2 t3) ∈ tups
theorem RowsIn.nil : RowsIn [] [] [] := ⟨rfl, fun i r h => by simp at h⟩
theorem RowsIn.snoc {tups : List (Addr × Obj)} {refs : List Value} {rows : List (Int × Int × Int)} (R : RowsIn tups refs rows) (T : Addr) (r : Int × Int × Int) (t1 t2 t3 : Tok) : RowsIn ((T, rowObj r t1 t2 t3) :: tups) (refs ++ [Value.ref T]) (rows ++ [r]) := by
  refine ⟨by rw [List.length_append, List.length_append, R.len]; rfl, fun i r' h => ?_⟩
  rcases Nat.lt_trichotomy i rows.length with hi | hi | hi
  · rw [List.getElem?_append_left hi] at h
    obtain ⟨T', a, b, c, e1, e2⟩ := R.row i r' h
    exact ⟨T', a, b, c, by rw [List.getElem?_append_left (R.len ▸ hi)]; exact e1, List.mem_cons_of_mem _ e2⟩
  · subst hi
    rw [List.getElem?_append_right (Nat.le_refl _), Nat.sub_self] at h
    cases h
    exact ⟨T, t1, t2, t3, by rw [List.getElem?_append_right (Nat.le_of_eq R.len), R.len, Nat.sub_self]; rfl, List.mem_cons_self ..⟩
  · rw [List.getElem?_append_right (Nat.le_of_lt hi)] at h
    exfalso
    have : i - rows.length ≠ 0 := by omega
    obtain ⟨j, hj⟩ : ∃ j, i - rows.length = j + 1 := ⟨i - rows.length - 1, by omega⟩
    rw [hj] at h; simp at h
/-- the rows, as they lie -/
noncomputable def RowsAt (h₀ h : Heap) (D : Addr) (rows : List (Int × Int × Int)) : Prop := ∃ (refs : List Value) (e : Nat), h.get? D = some (PySem.W.listOf refs.toArray e) ∧ h₀.get? D = none ∧ refs.length = rows.length ∧
  ∀ (i : Nat) (r : Int × Int × Int), rows[i]? = some r → ∃ (T : Addr) (t1 t2 t3 : Tok), refs[i]? = some (Value.ref T) ∧ h.get? T = some (rowObj r t1 t2 t3) ∧ h₀.get? T = none
theorem append_tail {prog : Program} {w : World} {A : Around} {E : Value → Shared → Prop} {s : Shared} {h₀ : Heap} {L D : Addr} {m : Str → Option Value} {news : List (Addr × Obj)} {its : Array Value} {n : Nat} {x : Value} {Q : Value → Shared → Prop}
    (F : Fr h₀ L s.heap m) (N : News h₀ L s.heap ((D, PySem.W.listOf its n) :: news)) (off : ∀ p ∈ news, p.1 ≠ D) (hsz : its.size ≤ sizeLine)
    (h : ∀ h', Fr h₀ L h' m → News h₀ L h' ((D, PySem.W.listOf (its.push x) (n + 1)) :: news) → Q .none { s with heap := h' }) : wpAny (model prog w) A (call (.builtin "list.append") [.ref D, x]) Q E s :=
  append_at (hsz := hsz) (N _ (List.mem_cons_self ..)).1 fun h' hs ho' => h h' (F.change hs (N _ (List.mem_cons_self ..)).2.1 (N _ (List.mem_cons_self ..)).2.2) fun p hp => by
    rcases List.mem_cons.mp hp with rfl | hp
    · exact ⟨ho', (N _ (List.mem_cons_self ..)).2⟩
    · exact ⟨hs.extBut _ _ (off p hp) (N p (List.mem_cons_of_mem _ hp)).1, (N p (List.mem_cons_of_mem _ hp)).2⟩
theorem wit_len (S S2 : WSt) : ∀ k, (witTo S S2 k).length ≤ k
  | 0 => Nat.le_refl _
  | k + 1 => by
    have := wit_len S S2 k
    unfold witTo
    split
    · omega
    · rw [List.length_append, List.length_singleton]; omega
theorem sub_two {α : Type} {l t : List α} {x y : α} : ∀ p ∈ l, p ∈ x :: y :: (l ++ t) := fun _ hp => List.mem_cons_of_mem _ (List.mem_cons_of_mem _ (List.mem_append_left _ hp))
theorem sub_three {α : Type} {l t : List α} {x y z : α} : ∀ p ∈ l, p ∈ x :: y :: z :: (l ++ t) := fun _ hp => List.mem_cons_of_mem _ (sub_two _ hp)
theorem sub_re {α : Type} {A B T : α} {l t : List α} : ∀ p ∈ B :: A :: (l ++ (T :: t)), p ∈ A :: B :: T :: (l ++ t) := by
  intro p hp
  simp only [List.mem_cons, List.mem_append] at hp ⊢
  rcases hp with h | h | h | h | h <;> simp [h]
theorem off_re {A T : Addr × Obj} {A' : Addr × Obj} {I : Addr} {l t : List (Addr × Obj)} (h : ∀ p ∈ A :: (l ++ t), p.1 ≠ I) (hA : A'.1 ≠ I) (hT : T.1 ≠ I) : ∀ p ∈ A' :: (l ++ (T :: t)), p.1 ≠ I := by
  intro p hp
  simp only [List.mem_cons, List.mem_append] at hp h
  rcases hp with rfl | hp | rfl | hp
  · exact hA
  · exact h p (Or.inr (Or.inl hp))
  · exact hT
  · exact h p (Or.inr (Or.inr hp))
local macro_rules | `(tactic| walk_at "newTuple") => `(tactic| refine Brk.go ?_)
local macro_rules | `(tactic| walk_at "call builtin:list.append") => `(tactic| refine Brk.go ?_)
set_option pp.deepTerms false
set_option pp.deepTerms.threshold 6
set_option maxRecDepth 100000 in
set_option maxHeartbeats 4000000 in
theorem wit_spec {w : World} {mean : ExcName → Option Value} {mg mb : Str → Option Value} {dp un : Nat} {fr : Option (List Env)} {gd : Option (List Code)} {s : Shared} {Q E : Value → Shared → Prop} {h₀ : Heap} {a dx tN tC a2 dx2 tN2 tC2 : Addr} {S S2 : WSt}
    (X : (hd.heap_1 w.params).In h₀) (T : Top qv LO mean mg mb h₀) (hk0 : Kp h₀ s.heap) (hA : dp + 8 < recursionLimit) (W : WsAt w s.heap a dx tN tC S) (n1 : h₀.get? a = none) (n2 : h₀.get? dx = none) (n3 : h₀.get? tN = none) (n4 : h₀.get? tC = none)
    (W2 : WsAt w s.heap a2 dx2 tN2 tC2 S2) (n5 : h₀.get? a2 = none) (n6 : h₀.get? dx2 = none) (n7 : h₀.get? tN2 = none) (n8 : h₀.get? tC2 = none)
    (hb : S.cnt.length ≤ 900 ∧ S.b ≤ 900 ∧ S.nt ≤ 900) (hb2 : S2.cnt.length ≤ 900 ∧ S2.b ≤ 900 ∧ S2.nt ≤ 900)
    (hret : ∀ D h' tk', Kp s.heap h' → RowsAt s.heap h' D (witTo S S2 (witN S S2)) → Q (.ref D) { s with heap := h', toks := tk' }) :
    wpAny (model PySem.Challenge.rw_rw0080_01.row.prog w) { handled := none, depth := dp, frames := fr, guards := gd, units := un } (call (.ref 95) [.ref a, .ref a2]) Q E s := by
  obtain ⟨x, t, k1, k2, k3, k4, k5, t1, t2, sm, t3, cs, hall, hcs⟩ := ws_all W n1 n2 n3 n4
  obtain ⟨x', t', k1', k2', k3', k4', k5', t1', t2', sm', t3', cs', hall', hcs'⟩ := ws_all W2 n5 n6 n7 n8
  have hall2 := List.forall_mem_append.mpr ⟨hall, hall'⟩
  revert X; k_fill; intro X
  refine wpAny_call ?_
  refine enterH X T hk0 hall2 (by show dp < _; exact room 0 hA) (by k_is) (by k_is) [(Str.ofString "other", some (.ref a2)), (Str.ofString "self", some (.ref a))] (BindsTo.of_eq rfl) rfl (locs rfl) (by decide) rfl rfl rfl ?_
  intro g L' h2 tk2 hg hL X2 T2 F2 N2
  (try dsimp only); (try k_fold)
  simp only [List.cons_append, List.nil_append] at N2
  obtain ⟨p1, p2, p3, p4, p5, p6⟩ := W.apart
  obtain ⟨q1, q2, q3, q4, q5, q6⟩ := W2.apart
  have getW : ∀ (h : Heap) (nw : List (Addr × Obj)), News g L' h nw → (∀ p ∈ [(a, instObj 112 dx), (dx, wsObj w x t k1 k2 k3 k4 k5 t1 t2 S tN sm), (tN, tupObj [.ref tC, .int (S.b : Nat) t3]), (tC, tupObj cs), (a2, instObj 112 dx2), (dx2, wsObj w x' t' k1' k2' k3' k4' k5' t1' t2' S2 tN2 sm'), (tN2, tupObj [.ref tC2, .int (S2.b : Nat) t3']), (tC2, tupObj cs')], p ∈ nw) → WsAt w h a dx tN tC S ∧ WsAt w h a2 dx2 tN2 tC2 S2 := by
    intro h nw N sub
    simp only [List.forall_mem_cons] at sub
    obtain ⟨s1, s2, s3, s4, s5, s6, s7, s8, _⟩ := sub
    exact ⟨⟨(N _ s1).1, ⟨_, _, _, _, _, _, _, _, _, _, (N _ s2).1⟩, ⟨_, (N _ s3).1⟩, ⟨_, (N _ s4).1, hcs⟩, ⟨p1, p2, p3, p4, p5, p6⟩⟩, ⟨(N _ s5).1, ⟨_, _, _, _, _, _, _, _, _, _, (N _ s6).1⟩, ⟨_, (N _ s7).1⟩, ⟨_, (N _ s8).1, hcs'⟩, ⟨q1, q2, q3, q4, q5, q6⟩⟩⟩
  have gn : g.get? a = none ∧ g.get? dx = none ∧ g.get? tN = none ∧ g.get? tC = none ∧ g.get? a2 = none ∧ g.get? dx2 = none ∧ g.get? tN2 = none ∧ g.get? tC2 = none := by
    have N3 := N2
    simp only [News, List.forall_mem_cons] at N3
    obtain ⟨s1, s2, s3, s4, s5, s6, s7, s8, _⟩ := N3
    exact ⟨s1.2.2, s2.2.2, s3.2.2, s4.2.2, s5.2.2, s6.2.2, s7.2.2, s8.2.2⟩
  obtain ⟨m1, m2, m3, m4, m5, m6, m7, m8⟩ := gn
  clear X T
  unfold wsObj tupObj at N2
  ((try (with_reducible show wpAny _ _ _ _ _ _)); (try k_fold))
  k_steps
  refine Brk.mk ?_
  refine longest_spec X2 T2 F2.keep (room 4 hA) (getW _ _ N2 (fun p hp => hp)).1 m1 m2 m3 m4 ⟨by omega, by omega, by omega⟩ fun h5 tk5 t5 kp5 => ?_
  have F5 := F2.keeps kp5
  have N5 := N2.grown kp5
  clear F2 N2
  (try dsimp only at F5 N5 ⊢)
  ((try (with_reducible show wpAny _ _ _ _ _ _)); (try k_fold))
  k_steps
  refine Brk.mk ?_
  refine longest_spec X2 T2 F5.keep (room 4 hA) (getW _ _ N5 (fun p hp => hp)).2 m5 m6 m7 m8 ⟨by omega, by omega, by omega⟩ fun h6 tk6 t6 kp6 => ?_
  have F6 := F5.keeps kp6
  have N6 := N5.grown kp6
  clear F5 N5
  (try dsimp only at F6 N6 ⊢)
  have hl1 : 0 ≤ wsLong S ∧ wsLong S ≤ 900 := by unfold wsLong; omega
  have hl2 : 0 ≤ wsLong S2 ∧ wsLong S2 ≤ 900 := by unfold wsLong; omega
  ((try (with_reducible show wpAny _ _ _ _ _ _)); (try k_fold))
  k_steps
  rename_i h71 tk71 h72 tk72 lA h73 l8 h82 F8a N8a h9 tk9 u1 u2 u3 hR F9 N9 kp9
  obtain ⟨o1, o2, o3, o4, o5, o6, o7, o8⟩ := l8
  have hnl : lA ∉ [a, dx, tN, tC, a2, dx2, tN2, tC2] := fun hm => by
    simp only [List.mem_cons, List.not_mem_nil, or_false] at hm
    rcases hm with q | q | q | q | q | q | q | q
    · exact Nat.ne_of_gt o1 q
    · exact Nat.ne_of_gt o2 q
    · exact Nat.ne_of_gt o3 q
    · exact Nat.ne_of_gt o4 q
    · exact Nat.ne_of_gt o5 q
    · exact Nat.ne_of_gt o6 q
    · exact Nat.ne_of_gt o7 q
    · exact Nat.ne_of_gt o8 q
  have hmx : (if wsLong S2 > wsLong S then wsLong S2 else wsLong S) = max (wsLong S) (wsLong S2) := by split <;> omega
  have hwn : (witN S S2 : Int) = max (wsLong S) (wsLong S2) + 1 := by unfold witN; omega
  rw [hmx] at hR F9
  refine Brk.mk ?_
  refine for_range (n := witN S S2) (m := mapOf [(Str.ofString "ts", none), (Str.ofString "a", some (.ref lA)), (Str.ofString "n", some (.int (max (wsLong S) (wsLong S2) + 1) _)), (Str.ofString "other", some (.ref a2)), (Str.ofString "self", some (.ref a))])
    (fun k m news gs => ∃ (u : Option Value) (t9 : Tok) (refs : List Value) (e : Nat) (tups : List (Addr × Obj)), m = mapOf [(Str.ofString "ts", u), (Str.ofString "a", some (.ref lA)), (Str.ofString "n", some (.int (max (wsLong S) (wsLong S2) + 1) t9)), (Str.ofString "other", some (.ref a2)), (Str.ofString "self", some (.ref a))] ∧
      news = (lA, PySem.W.listOf refs.toArray e) :: (a, instObj 112 dx) :: (dx, wsObj w x t k1 k2 k3 k4 k5 t1 t2 S tN sm) :: (tN, tupObj [.ref tC, .int (S.b : Nat) t3]) :: (tC, tupObj cs) :: (a2, instObj 112 dx2) :: (dx2, wsObj w x' t' k1' k2' k3' k4' k5' t1' t2' S2 tN2 sm') :: (tN2, tupObj [.ref tC2, .int (S2.b : Nat) t3']) :: (tC2, tupObj cs') :: tups ∧
      RowsIn tups refs (witTo S S2 k) ∧ (∀ p ∈ tups, p.1 ≠ lA ∧ p.1 ∉ [a, dx, tN, tC, a2, dx2, tN2, tC2]) ∧ gs = s.gens)
    rfl rfl rfl rfl hR (small_one (by omega) (by omega) (by omega) (by omega)) (by omega) (Fr.congr F9 (by walk_at "MAP")) N9 ⟨_, _, [], 0, [], rfl, rfl, .nil, (fun _ h => by cases h), rfl⟩ ?_ ?_
  · rintro k tk3 m' news' h' tk' gs' I oI hk hJ0 F' N' off
    (try (with_reducible show wpAny _ _ _ _ _ _)); (try k_fold)
    obtain ⟨u, t9, refs, e, tups, rfl, rfl, hrows, hoffA, rfl⟩ := hJ0
    have e1 : (1 + (k : Int)) = ((k + 1 : Nat) : Int) := by omega
    rw [e1] at F'
    have hkl : k + 1 ≤ 1000 := by omega
    have hrl : refs.length ≤ 2000 := by rw [hrows.len]; have := wit_len S S2 k; omega
    have oA : @Ne Nat lA I := off (lA, _) (List.mem_cons_self ..)
    unfold wsObj tupObj at N'
    (try dsimp only at F' N' ⊢)
    have hkt : 1 ≤ k + 1 ∧ k + 1 ≤ 1000 := ⟨by omega, hkl⟩
    have sub8 : ∀ p ∈ [(a, instObj 112 dx), (dx, wsObj w x t k1 k2 k3 k4 k5 t1 t2 S tN sm), (tN, tupObj [.ref tC, .int (S.b : Nat) t3]), (tC, tupObj cs), (a2, instObj 112 dx2), (dx2, wsObj w x' t' k1' k2' k3' k4' k5' t1' t2' S2 tN2 sm'), (tN2, tupObj [.ref tC2, .int (S2.b : Nat) t3']), (tC2, tupObj cs')], p ∈ (I, oI) :: (lA, PySem.W.listOf refs.toArray e) :: ([(a, instObj 112 dx), (dx, wsObj w x t k1 k2 k3 k4 k5 t1 t2 S tN sm), (tN, tupObj [.ref tC, .int (S.b : Nat) t3]), (tC, tupObj cs), (a2, instObj 112 dx2), (dx2, wsObj w x' t' k1' k2' k3' k4' k5' t1' t2' S2 tN2 sm'), (tN2, tupObj [.ref tC2, .int (S2.b : Nat) t3']), (tC2, tupObj cs')] ++ tups) := sub_two
    ((try (with_reducible show wpAny _ _ _ _ _ _)); (try k_fold))
    k_steps
    refine Brk.mk ?_
    refine indent_spec X2 T2 F'.keep (room 4 hA) (getW _ _ N' sub8).1 m1 m2 m3 m4 ⟨by omega, by omega, by omega⟩ hkt fun h5 tk5 t5 kp5 => ?_
    have F5 := F'.keeps kp5
    have N5 := N'.grown kp5
    clear F' N'
    (try dsimp only at F5 N5 ⊢)
    ((try (with_reducible show wpAny _ _ _ _ _ _)); (try k_fold))
    k_steps
    refine Brk.mk ?_
    refine indent_spec X2 T2 F5.keep (room 4 hA) (getW _ _ N5 sub8).2 m5 m6 m7 m8 ⟨by omega, by omega, by omega⟩ hkt fun h6 tk6 t6 kp6 => ?_
    have F6 := F5.keeps kp6
    have N6 := N5.grown kp6
    clear F5 N5
    (try dsimp only at F6 N6 ⊢)
    ((try (with_reducible show wpAny _ _ _ _ _ _)); (try k_fold))
    k_steps
    · rename_i hne
      refine Brk.mk ?_
      refine indent_spec X2 T2 F6.keep (room 4 hA) (getW _ _ N6 sub8).1 m1 m2 m3 m4 ⟨by omega, by omega, by omega⟩ hkt fun h10 tk10 t10 kp10 => ?_
      have F10 := F6.keeps kp10
      have N10 := N6.grown kp10
      clear F6 N6
      (try dsimp only at F10 N10 ⊢)
      ((try (with_reducible show wpAny _ _ _ _ _ _)); (try k_fold))
      k_steps
      refine Brk.mk ?_
      refine indent_spec X2 T2 F10.keep (room 4 hA) (getW _ _ N10 sub8).2 m5 m6 m7 m8 ⟨by omega, by omega, by omega⟩ hkt fun h11 tk11 t11 kp11 => ?_
      have F11 := F10.keeps kp11
      have N11 := N10.grown kp11
      clear F10 N10
      (try dsimp only at F11 N11 ⊢)
      ((try (with_reducible show wpAny _ _ _ _ _ _)); (try k_fold))
      k_steps
      refine Brk.mk ?_
      refine wpAny_newTuple ?_
      have N12 := N11.push F11 (rowObj (((k + 1 : Nat) : Int), wsIndent S (k + 1), wsIndent S2 (k + 1)) tk3 t10 t11)
      have F12 := F11.push (rowObj (((k + 1 : Nat) : Int), wsIndent S (k + 1), wsIndent S2 (k + 1)) tk3 t10 t11)
      have hTA : @Ne Nat lA h11.objs.size := Nat.ne_of_lt (Heap.lt_size (N11 (lA, _) (List.mem_cons_of_mem _ (List.mem_cons_self ..))).1)
      have hTI : @Ne Nat I h11.objs.size := Nat.ne_of_lt (Heap.lt_size (N11 (I, oI) (List.mem_cons_self ..)).1)
      have hTf : h11.objs.size ∉ List.map (·.1) [(a, instObj 112 dx), (dx, wsObj w x t k1 k2 k3 k4 k5 t1 t2 S tN sm), (tN, tupObj [.ref tC, .int (S.b : Nat) t3]), (tC, tupObj cs), (a2, instObj 112 dx2), (dx2, wsObj w x' t' k1' k2' k3' k4' k5' t1' t2' S2 tN2 sm'), (tN2, tupObj [.ref tC2, .int (S2.b : Nat) t3']), (tC2, tupObj cs')] := fun hm => by
        obtain ⟨p, hp, e⟩ := List.mem_map.mp hm
        exact Nat.ne_of_lt (Heap.lt_size (N11 p (sub8 p hp)).1) e
      generalize hTT : h11.objs.size = TT at *
      have N13 : News g L' (h11.push (rowObj (((k + 1 : Nat) : Int), wsIndent S (k + 1), wsIndent S2 (k + 1)) tk3 t10 t11)) ((lA, PySem.W.listOf refs.toArray e) :: (I, oI) :: (TT, rowObj (((k + 1 : Nat) : Int), wsIndent S (k + 1), wsIndent S2 (k + 1)) tk3 t10 t11) :: ([(a, instObj 112 dx), (dx, wsObj w x t k1 k2 k3 k4 k5 t1 t2 S tN sm), (tN, tupObj [.ref tC, .int (S.b : Nat) t3]), (tC, tupObj cs), (a2, instObj 112 dx2), (dx2, wsObj w x' t' k1' k2' k3' k4' k5' t1' t2' S2 tN2 sm'), (tN2, tupObj [.ref tC2, .int (S2.b : Nat) t3']), (tC2, tupObj cs')] ++ tups)) := by
        intro p hp
        refine N12 p ?_
        rcases List.mem_cons.mp hp with rfl | hp
        · exact List.mem_cons_of_mem _ (List.mem_cons_of_mem _ (List.mem_cons_self ..))
        · rcases List.mem_cons.mp hp with rfl | hp
          · exact List.mem_cons_of_mem _ (List.mem_cons_self ..)
          · rcases List.mem_cons.mp hp with rfl | hp
            · exact List.mem_cons_self ..
            · exact List.mem_cons_of_mem _ (List.mem_cons_of_mem _ (List.mem_cons_of_mem _ hp))
      ((try (with_reducible show wpAny _ _ _ _ _ _)); (try k_fold))
      k_steps
      refine Brk.mk ?_
      have hoff : ∀ p ∈ (I, oI) :: (TT, rowObj (((k + 1 : Nat) : Int), wsIndent S (k + 1), wsIndent S2 (k + 1)) tk3 t10 t11) :: ([(a, instObj 112 dx), (dx, wsObj w x t k1 k2 k3 k4 k5 t1 t2 S tN sm), (tN, tupObj [.ref tC, .int (S.b : Nat) t3]), (tC, tupObj cs), (a2, instObj 112 dx2), (dx2, wsObj w x' t' k1' k2' k3' k4' k5' t1' t2' S2 tN2 sm'), (tN2, tupObj [.ref tC2, .int (S2.b : Nat) t3']), (tC2, tupObj cs')] ++ tups), p.1 ≠ lA := by
        intro p hp
        rcases List.mem_cons.mp hp with rfl | hp
        · exact Ne.symm oA
        · rcases List.mem_cons.mp hp with rfl | hp
          · exact Ne.symm hTA
          · rcases List.mem_append.mp hp with hp | hp
            · exact fun e => hnl (e ▸ List.mem_map_of_mem (f := (·.1)) hp)
            · exact (hoffA p hp).1
      refine append_tail F12 N13 hoff (by rw [PySem.sizeLine_eq, List.size_toArray]; omega) fun h14 F14 N14 => ?_
      rw [List.push_toArray] at N14
      clear N13 N12 F12 N11 F11
      (try dsimp only at F14 N14 ⊢)
      refine wpAny_execs_nil ?_
      (try dsimp only)
      refine wpAny_execs_nil ?_
      have hw : witTo S S2 (k + 1) = witTo S S2 k ++ [(((k + 1 : Nat) : Int), wsIndent S (k + 1), wsIndent S2 (k + 1))] := by rw [witTo, if_neg hne]
      exact turn_next F14 N14 (by walk_at "MAP") sub_re (off_re off oA (Ne.symm hTI)) trivial ⟨_, _, refs ++ [Value.ref TT], e + 1, (TT, rowObj (((k + 1 : Nat) : Int), wsIndent S (k + 1), wsIndent S2 (k + 1)) tk3 t10 t11) :: tups, rfl, rfl, hw ▸ hrows.snoc TT _ tk3 t10 t11, List.forall_mem_cons.mpr ⟨⟨Ne.symm hTA, hTf⟩, hoffA⟩, rfl⟩
    · rename_i heq
      refine Brk.mk ?_
      have hw : witTo S S2 (k + 1) = witTo S S2 k := by rw [witTo, if_pos heq]
      exact turn_next F6 N6 (by walk_at "MAP") (fun p hp => hp) off trivial ⟨_, _, refs, e, tups, rfl, rfl, hw ▸ hrows, hoffA, rfl⟩
  · rintro m' news' h' tk' gs' hJ0 F' N'
    (try (with_reducible show wpAny _ _ _ _ _ _)); (try k_fold)
    obtain ⟨u, t9, refs, e, tups, rfl, rfl, hrows, hoffA, rfl⟩ := hJ0
    have N0 := N'
    unfold wsObj tupObj at N'
    (try dsimp only at F' N' ⊢)
    ((try (with_reducible show wpAny _ _ _ _ _ _)); (try k_fold))
    k_steps
    subst hg
    have hD := N0 (lA, PySem.W.listOf refs.toArray e) (List.mem_cons_self ..)
    refine hret lA h' _ (back_kp F' N0 (fun p hp => (hall2 p hp).1) ?_) ⟨refs, e, hD.1, ((hide_get (h := s.heap) (b := lA) hnl).symm.trans hD.2.2), hrows.len, fun i r hi => ?_⟩
    · exact fun p hp => List.mem_cons_of_mem _ (List.mem_append_left tups hp)
    · obtain ⟨T, b1, b2, b3, e1, e2⟩ := hrows.row i r hi
      have hT := N0 _ (List.mem_cons_of_mem _ (List.mem_append_right [(a, instObj 112 dx), (dx, wsObj w x t k1 k2 k3 k4 k5 t1 t2 S tN sm), (tN, tupObj [.ref tC, .int (S.b : Nat) t3]), (tC, tupObj cs), (a2, instObj 112 dx2), (dx2, wsObj w x' t' k1' k2' k3' k4' k5' t1' t2' S2 tN2 sm'), (tN2, tupObj [.ref tC2, .int (S2.b : Nat) t3']), (tC2, tupObj cs')] e2))
      exact ⟨T, b1, b2, b3, e1, hT.1, ((hide_get (h := s.heap) (b := T) (hoffA _ e2).2).symm.trans hT.2.2)⟩
end
section
noncomputable def leadOf (x : Nat) : List Nat := List.replicate x 32 ++ [9]
theorem mul_blank (n : Int) : (Txt.mul (Str.ofString " ") n).cps.toList = List.replicate n.toNat 32 := by
  have e : Str.ofString " " = ⟨#[32]⟩ := by decide +kernel
  rw [e]; exact PyProof.Rows.mul_one_list 32 n
theorem tab_list : (Str.ofString "\t").cps.toList = [9] := by decide +kernel
theorem lead_text (n : Int) : ((Txt.mul (Str.ofString " ") n) ++ Str.ofString "\t").cps.toList = leadOf n.toNat := by
  rw [cps_append, mul_blank, tab_list]; rfl
theorem mul_blank_len (n : Int) : (Txt.mul (Str.ofString " ") n).length = n.toNat := by
  have h := congrArg List.length (mul_blank n)
  rw [Array.length_toList, List.length_replicate] at h
  exact h
theorem lead_len (n : Int) : ((Txt.mul (Str.ofString " ") n) ++ Str.ofString "\t").length = n.toNat + 1 := by
  have h := congrArg List.length (lead_text n)
  rw [Array.length_toList] at h
  rw [show ((Txt.mul (Str.ofString " ") n) ++ Str.ofString "\t").length = ((Txt.mul (Str.ofString " ") n) ++ Str.ofString "\t").cps.size from rfl, h]
  unfold leadOf
  rw [List.length_append, List.length_replicate]; rfl
theorem join_nil_list : ∀ ts : List Str, (Str.join (Str.ofString "") ts).cps.toList = (ts.map fun z => z.cps.toList).flatten
  | [] => rfl
  | [a] => by simp [Str.join]
  | a :: b :: r => by
    have ih := join_nil_list (b :: r)
    show ((a ++ Str.ofString "" ++ Str.join (Str.ofString "") (b :: r))).cps.toList = _
    rw [cps_append, cps_append, ih]
    have : (Str.ofString "").cps.toList = [] := by decide +kernel
    rw [this]; simp
theorem txt_join_nil (ts : List Str) : (Txt.join (Str.ofString "") ts).cps.toList = (ts.map fun z => z.cps.toList).flatten := by
  have e2 : Txt.join (Str.ofString "") ts = Str.join (Str.ofString "") ts := StrLaws.glued_eq_join _ _
  rw [e2]; exact join_nil_list ts
theorem leads_chars {l : List Nat} {c : Nat} (h : c ∈ (l.map leadOf).flatten) : c = 32 ∨ c = 9 := by
  obtain ⟨m, hm, hc⟩ := List.mem_flatten.mp h
  obtain ⟨x, _, rfl⟩ := List.mem_map.mp hm
  unfold leadOf at hc
  rcases List.mem_append.mp hc with h | h
  · exact Or.inl (List.mem_replicate.mp h).2
  · exact Or.inr (List.mem_singleton.mp h)
theorem leads_len {l : List Nat} (h : ∀ x ∈ l, x < 14) : (l.map leadOf).flatten.length ≤ 14 * l.length := by
  induction l with
  | nil => exact Nat.le_refl _
  | cons x l ih =>
    have h1 := h x (List.mem_cons_self ..)
    have h2 := ih fun y hy => h y (List.mem_cons_of_mem _ hy)
    rw [List.map_cons, List.flatten_cons, List.length_append, List.length_cons]
    unfold leadOf at h2 ⊢
    rw [List.length_append, List.length_replicate, List.length_singleton]
    omega
theorem txt_len (x : Str) : x.length = x.cps.toList.length := by rw [Array.length_toList]; rfl
theorem ws_news {w : World} {h₀ h h' : Heap} {L : Addr} {m : Str → Option Value} {a dx tN tC : Addr} {S : WSt} (F : Fr h₀ L h m) (W : WsAt w h' a dx tN tC S) (kp : Kp h h') (n1 : h.get? a = none) (n2 : h.get? dx = none) (n3 : h.get? tN = none) (n4 : h.get? tC = none) {news : List (Addr × Obj)} (N : News h₀ L h news) :
    ∃ x t k1 k2 k3 k4 k5 t1 t2 sm t3 cs, News h₀ L h' ((a, instObj 112 dx) :: (dx, wsObj w x t k1 k2 k3 k4 k5 t1 t2 S tN sm) :: (tN, tupObj [.ref tC, .int (S.b : Nat) t3]) :: (tC, tupObj cs) :: news) ∧ IntsAre cs S.cnt := by
  obtain ⟨x, t, k1, k2, k3, k4, k5, t1, t2, sm, e2⟩ := W.dict
  obtain ⟨t3, e3⟩ := W.norm
  obtain ⟨cs, e4, hi⟩ := W.cnt
  have key : ∀ b : Addr, ∀ o, h.get? b = none → h'.get? b = some o → h'.get? b = some o ∧ b ≠ L ∧ h₀.get? b = none := fun b o hn e => by
    refine ⟨e, ?_, ?_⟩
    · rintro rfl
      obtain ⟨oL, _, _, hL, _⟩ := F.ns
      rw [hn] at hL; cases hL
    · cases q : h₀.get? b with
      | none => rfl
      | some o' => have := F.keep _ _ q; rw [hn] at this; cases this
  refine ⟨x, t, k1, k2, k3, k4, k5, t1, t2, sm, t3, cs, ?_, hi⟩
  intro p hp
  rcases List.mem_cons.mp hp with rfl | hp
  · exact key a _ n1 W.inst
  · rcases List.mem_cons.mp hp with rfl | hp
    · exact key dx _ n2 e2
    · rcases List.mem_cons.mp hp with rfl | hp
      · exact key tN _ n3 e3
      · rcases List.mem_cons.mp hp with rfl | hp
        · exact key tC _ n4 e4
        · exact N.grown kp p hp
theorem none_of_kp {h₀ h : Heap} (hk : Kp h₀ h) {a : Addr} (e : h.get? a = none) : h₀.get? a = none := by
  cases q : h₀.get? a with
  | none => rfl
  | some o => have := hk _ _ q; rw [e] at this; cases this
theorem RowsAt.down {h₀ h1 h : Heap} {D : Addr} {rows : List (Int × Int × Int)} (hk : Kp h₀ h1) (R : RowsAt h1 h D rows) : RowsAt h₀ h D rows := by
  obtain ⟨refs, e, h1, h2, h3, h4⟩ := R
  refine ⟨refs, e, h1, none_of_kp hk h2, h3, fun i r hi => ?_⟩
  obtain ⟨T, t1, t2, t3, a, b, c⟩ := h4 i r hi
  exact ⟨T, t1, t2, t3, a, b, none_of_kp hk c⟩
noncomputable def longW (ns : List Int) : WSt := wsRun ((ns.map Int.toNat).map leadOf).flatten
noncomputable def shortW (ns : List Int) : WSt := wsRun ((ns.map fun x => x.toNat - 1).map leadOf).flatten
noncomputable def rowsOf (ns : List Int) : List (Int × Int × Int) := witTo (longW ns) (shortW ns) (witN (longW ns) (shortW ns))
local macro_rules | `(tactic| walk_at "exec For Tuple Call cons nil") => `(tactic| (k_here; k_dflt (refine wpAny_For ?_ (by intro _; with_unfolding_all rfl))))
local macro_rules | `(tactic| walk_at "eval ListComp") => `(tactic| refine Brk.go ?_)
local macro_rules | `(tactic| walk_at "CompSrc") => `(tactic| refine Brk.go ?_)
local macro_rules | `(tactic| walk_at "CompEnd") => `(tactic| refine Brk.go ?_)
set_option pp.deepTerms false
set_option pp.deepTerms.threshold 6
set_option maxRecDepth 100000 in
set_option maxHeartbeats 4000000 in
theorem leads_spec {w : World} {mean : ExcName → Option Value} {mg mb : Str → Option Value} {dp un : Nat} {fr : Option (List Env)} {gd : Option (List Code)} {s : Shared} {Q E : Value → Shared → Prop} {l : Addr} {vs : List Value} {ns : List Int}
    (X : (hd.heap_1 w.params).In s.heap) (T : Top qv LO mean mg mb s.heap) (hA : dp + 20 < recursionLimit) (hl : s.heap.IsList l vs.toArray) (hI : IntsAre vs ns) (hb : ∀ x ∈ ns, 1 ≤ x ∧ x < 14) (hn : ns.length < 64)
    (hret : ∀ D h' tk', Kp s.heap h' → RowsAt s.heap h' D (rowsOf ns) → Q (.ref D) { s with heap := h', toks := tk' }) :
    wpAny (model PySem.Challenge.rw_rw0080_01.row.prog w) { handled := none, depth := dp, frames := fr, guards := gd, units := un } (call (.ref 145) [.ref l]) Q E s := by
  revert X; k_fill; intro X
  refine enter X T (by show dp < _; exact room 0 hA) (by k_is) (by k_is) [(Str.ofString "hooks", some (.ref l))] (BindsTo.of_eq rfl) rfl (locs rfl) (by decide) rfl rfl rfl ?_
  intro L h tk F N
  (try dsimp only); (try k_fold)
  have hvl := hI.length
  ((try (with_reducible show wpAny _ _ _ _ _ _)); (try k_fold))
  k_steps
  refine Brk.mk ?_
  refine LCg.ListComp_U (F₀ := by k_asm) (by with_unfolding_all rfl) (by decide) (by rfl) (by decide) (by rfl) ?_
  ((try (with_reducible show wpAny _ _ _ _ _ _)); (try k_fold))
  k_steps
  refine Brk.mk ?_
  refine LCg.CompSrc.base rfl (by k_asm) (by k_asm) hl (by rw [PySem.sizeLine_eq, List.size_toArray]; omega) fun g => ?_
  refine comp_ind _ _ (fun i ys => ∃ ts, StrsAre ys ts ∧ ts.map (fun z => z.cps.toList) = (ns.take i).map (fun x => leadOf x.toNat) ∧ ys.length ≤ i) ⟨[], .nil, by simp, Nat.le_refl _⟩ ?_ ?_
  · rintro ys ⟨ts, hys, hts, hyl⟩
    (try dsimp only)
    ((try (with_reducible show wpAny _ _ _ _ _ _)); (try k_fold))
    k_steps
    refine Brk.mk ?_
    rename_i D8 h8 tk8 F8 N8 o8
    have hvs : vs.toArray.size = ns.length := by rw [List.size_toArray]; exact hvl
    rw [hvs, List.take_length] at hts
    have hts2 : ts.map (fun z => z.cps.toList) = (ns.map Int.toNat).map leadOf := by rw [hts, List.map_map]; rfl
    refine join_strs (News.isList N8 (List.mem_cons_self ..)) hys (joinOk_bd 20 (fun z hz => ?_) ?_ (by decide)) fun t8 k8 => ?_
    · have : z.cps.toList ∈ (ns.map Int.toNat).map leadOf := hts2 ▸ List.mem_map_of_mem hz
      obtain ⟨y, hy, e⟩ := List.mem_map.mp this
      obtain ⟨y2, hy2, rfl⟩ := List.mem_map.mp hy
      have := hb y2 hy2
      rw [txt_len, ← e]; unfold leadOf; rw [List.length_append, List.length_replicate, List.length_singleton]; omega
    · have := congrArg List.length hts
      rw [List.length_map, List.length_map] at this
      omega
    have htx := txt_join_nil ts
    rw [hts2] at htx
    generalize Txt.join (Str.ofString "") ts = z1 at htx
    have hz1 : ∀ c ∈ z1.cps, c = 32 ∨ c = 9 := fun c hc => leads_chars (htx ▸ (by simpa using hc : c ∈ z1.cps.toList))
    have hzl1 : z1.length ≤ 1000 := by
      rw [txt_len, htx]
      have := leads_len (l := ns.map Int.toNat) (fun x hx => by
        obtain ⟨y, hy, rfl⟩ := List.mem_map.mp hx
        have := hb y hy; omega)
      rw [List.length_map] at this
      omega
    ((try (with_reducible show wpAny _ _ _ _ _ _)); (try k_fold))
    k_steps
    refine Brk.mk ?_
    refine ws_spec (X.keeps F8.keep) (T.keeps F8.keep) (room 16 hA) hz1 hzl1 fun a dx tN tC h9 tk9 kp9 W1 n1 n2 n3 n4 => ?_
    obtain ⟨rx, rt, c1, c2, c3, c4, c5, e1, e2, sm, e3, cs, N9, hcs⟩ := ws_news F8 W1 kp9 n1 n2 n3 n4 (News.nil (h₀ := s.heap) (L := L))
    rw [htx] at N9 hcs
    have hap := W1.apart
    have F9 := F8.keeps kp9
    clear N8 W1 n1 n2 n3 n4 kp9 F8
    (try dsimp only at F9 N9 ⊢)
    ((try (with_reducible show wpAny _ _ _ _ _ _)); (try k_fold))
    k_steps
    refine Brk.mk ?_
    refine LCg.ListComp_U (F₀ := by k_asm) (by with_unfolding_all rfl) (by decide) (by rfl) (by decide) (by rfl) ?_
    ((try (with_reducible show wpAny _ _ _ _ _ _)); (try k_fold))
    k_steps
    refine Brk.mk ?_
    refine LCg.CompSrc.base rfl (by k_asm) (by k_asm) hl (by rw [PySem.sizeLine_eq, List.size_toArray]; omega) fun g => ?_
    refine comp_ind _ _ (fun i ys => ∃ ts, StrsAre ys ts ∧ ts.map (fun z => z.cps.toList) = (ns.take i).map (fun x => leadOf (x.toNat - 1)) ∧ ys.length ≤ i) ⟨[], .nil, by simp, Nat.le_refl _⟩ ?_ ?_
    · rintro ys ⟨ts, hys, hts, hyl⟩
      (try dsimp only)
      ((try (with_reducible show wpAny _ _ _ _ _ _)); (try k_fold))
      k_steps
      refine Brk.mk ?_
      rename_i D10 h10 tk10 F10 N10 o10
      rw [hvs, List.take_length] at hts
      have hts2 : ts.map (fun z => z.cps.toList) = (ns.map fun x => x.toNat - 1).map leadOf := by rw [hts, List.map_map]; rfl
      refine join_strs (News.isList N10 (List.mem_cons_self ..)) hys (joinOk_bd 20 (fun z hz => ?_) ?_ (by decide)) fun t8 k8 => ?_
      · have : z.cps.toList ∈ (ns.map fun x => x.toNat - 1).map leadOf := hts2 ▸ List.mem_map_of_mem hz
        obtain ⟨y, hy, e⟩ := List.mem_map.mp this
        obtain ⟨y2, hy2, rfl⟩ := List.mem_map.mp hy
        have := hb y2 hy2
        rw [txt_len, ← e]; unfold leadOf; rw [List.length_append, List.length_replicate, List.length_singleton]; omega
      · have := congrArg List.length hts
        rw [List.length_map, List.length_map] at this
        omega
      have htx2 := txt_join_nil ts
      rw [hts2] at htx2
      generalize Txt.join (Str.ofString "") ts = z2 at htx2
      have hz2 : ∀ c ∈ z2.cps, c = 32 ∨ c = 9 := fun c hc => leads_chars (htx2 ▸ (by simpa using hc : c ∈ z2.cps.toList))
      have hzl2 : z2.length ≤ 1000 := by
        rw [txt_len, htx2]
        have := leads_len (l := ns.map fun x => x.toNat - 1) (fun x hx => by
          obtain ⟨y, hy, rfl⟩ := List.mem_map.mp hx
          have := hb y hy; omega)
        rw [List.length_map] at this
        omega
      have N10' := (List.forall_mem_cons.mp N10).2
      clear N10
      ((try (with_reducible show wpAny _ _ _ _ _ _)); (try k_fold))
      k_steps
      refine Brk.mk ?_
      refine ws_spec (X.keeps F10.keep) (T.keeps F10.keep) (room 16 hA) hz2 hzl2 fun a2 dx2 tN2 tC2 h12 tk12 kp12 W2 n1 n2 n3 n4 => ?_
      obtain ⟨rx2, rt2, d1, d2, d3, d4, d5, g1, g2, sm2, g3, cs2, N12, hcs2⟩ := ws_news F10 W2 kp12 n1 n2 n3 n4 N10'
      rw [htx2] at N12 hcs2
      have hap2 := W2.apart
      have F12 := F10.keeps kp12
      clear N10' W2 n1 n2 n3 n4 kp12 F10
      unfold wsObj tupObj at N12
      (try dsimp only at F12 N12 ⊢)
      ((try (with_reducible show wpAny _ _ _ _ _ _)); (try k_fold))
      k_steps
      rename_i h14 F14 N14
      refine Brk.mk ?_
      have hl1 : ((ns.map Int.toNat).map leadOf).flatten.length ≤ 900 := by
        have := leads_len (l := ns.map Int.toNat) (fun x hx => by
          obtain ⟨y, hy, rfl⟩ := List.mem_map.mp hx
          have := hb y hy; omega)
        rw [List.length_map] at this
        omega
      have hl2 : ((ns.map fun x => x.toNat - 1).map leadOf).flatten.length ≤ 900 := by
        have := leads_len (l := ns.map fun x => x.toNat - 1) (fun x hx => by
          obtain ⟨y, hy, rfl⟩ := List.mem_map.mp hx
          have := hb y hy; omega)
        rw [List.length_map] at this
        omega
      have hr1 := run_bd ((ns.map Int.toNat).map leadOf).flatten
      have hr2 := run_bd ((ns.map fun x => x.toNat - 1).map leadOf).flatten
      simp only [News, List.forall_mem_cons] at N14
      obtain ⟨s1, s2, s3, s4, s5, s6, s7, s8, _⟩ := N14
      refine wit_spec X T F14.keep (room 9 hA) ⟨s5.1, ⟨_, _, _, _, _, _, _, _, _, _, s6.1⟩, ⟨_, s7.1⟩, ⟨_, s8.1, hcs⟩, hap⟩ s5.2.2 s6.2.2 s7.2.2 s8.2.2
        ⟨s1.1, ⟨_, _, _, _, _, _, _, _, _, _, s2.1⟩, ⟨_, s3.1⟩, ⟨_, s4.1, hcs2⟩, hap2⟩ s1.2.2 s2.2.2 s3.2.2 s4.2.2 ⟨by omega, by omega, by omega⟩ ⟨by omega, by omega, by omega⟩ fun D h' tk' kp R => ?_
      exact hret D h' tk' (Kp.trans F14.keep kp) (R.down F14.keep)
    · rintro k i ys hi ⟨ts, hys, hts, hyl⟩ hrec
      refine LCg.CompRest.succ ?_
      rintro v I oI C' oC' D m' h' tk' E' hv hC' hx' F' N' off' ne'
      obtain ⟨x, tx, hxi, rfl⟩ := ints_at hI (show vs[i]? = some v by simpa using hv)
      have hx2 := hb x (List.mem_of_getElem? hxi)
      have hml := mul_blank_len (x - 1)
      ((try (with_reducible show wpAny _ _ _ _ _ _)); (try k_fold))
      k_steps
      refine Brk.mk ?_
      exact LCg.CompEnd.intro (by assumption) (by assumption) _ (fun p hp => hp) off' (Or.inl hl) (hrec _ ⟨ts ++ [_], strs_snoc hys, by rw [List.map_append, hts, List.take_add_one, hxi, List.map_append, List.map_cons, List.map_nil, lead_text, show (x - 1).toNat = x.toNat - 1 by omega]; rfl, by rw [List.length_append, List.length_singleton]; omega⟩)
  · rintro k i ys hi ⟨ts, hys, hts, hyl⟩ hrec
    refine LCg.CompRest.succ ?_
    rintro v I oI C' oC' D m' h' tk' E' hv hC' hx' F' N' off' ne'
    obtain ⟨x, tx, hxi, rfl⟩ := ints_at hI (show vs[i]? = some v by simpa using hv)
    have hx2 := hb x (List.mem_of_getElem? hxi)
    have hml := mul_blank_len x
    ((try (with_reducible show wpAny _ _ _ _ _ _)); (try k_fold))
    k_steps
    refine Brk.mk ?_
    exact LCg.CompEnd.intro (by assumption) (by assumption) [] (fun p hp => hp) off' (Or.inl hl) (hrec _ ⟨ts ++ [_], strs_snoc hys, by rw [List.map_append, hts, List.take_add_one, hxi, List.map_append, List.map_cons, List.map_nil, lead_text]; rfl, by rw [List.length_append, List.length_singleton]; omega⟩)
end
section
noncomputable def packL (ns : List Int) (st : Int) : List Int := (List.range ns.length).map fun i => (ns.getD i 0).fmod st + st * (((ns.map fun k => k.fmod st).take i).count ((ns.getD i 0).fmod st) : Int)
noncomputable def bitsTo (fl n : Nat) : List Int := ((List.range n).filter fl.testBit).map Int.ofNat
theorem bitsTo_yes {fl n : Nat} (h : fl.testBit n = true) : bitsTo fl (n + 1) = bitsTo fl n ++ [(n : Int)] := by
  unfold bitsTo
  rw [List.range_succ, List.filter_append, List.map_append]
  have : List.filter fl.testBit [n] = [n] := List.filter_cons_of_pos h
  rw [this]; rfl
theorem bitsTo_no {fl n : Nat} (h : fl.testBit n = false) : bitsTo fl (n + 1) = bitsTo fl n := by
  unfold bitsTo
  rw [List.range_succ, List.filter_append, List.map_append]
  have : List.filter fl.testBit [n] = [] := List.filter_cons_of_neg (by rw [h]; exact Bool.false_ne_true)
  rw [this]; simp
theorem bitsTo_mem {fl n : Nat} : ∀ x ∈ bitsTo fl n, 0 ≤ x ∧ x < n := by
  intro x hx
  obtain ⟨p, hp, rfl⟩ := List.mem_map.mp hx
  have := List.mem_range.mp (List.mem_filter.mp hp).1
  exact ⟨Int.natCast_nonneg _, by show (p : Int) < n; omega⟩
theorem bitsTo_len (fl n : Nat) : (bitsTo fl n).length ≤ n := by
  unfold bitsTo
  rw [List.length_map]
  exact Nat.le_trans (List.length_filter_le _ _) (by rw [List.length_range]; exact Nat.le_refl _)
noncomputable def natOf (f : Nat → Bool) : Nat → Nat
  | 0 => 0
  | n + 1 => natOf f n + (if f n then 2 ^ n else 0)
noncomputable def sinkN (st fl : Nat) : Nat := natOf (fun p => decide (p / st < cls st (p % st) fl)) 14
theorem natOf_lt (f : Nat → Bool) : ∀ n, natOf f n < 2 ^ n
  | 0 => by unfold natOf; exact Nat.one_pos
  | n + 1 => by
    have := natOf_lt f n
    unfold natOf
    split <;> omega
theorem natOf_bit (f : Nat → Bool) : ∀ n p, (natOf f n).testBit p = (decide (p < n) && f p)
  | 0, p => by simp [natOf]
  | n + 1, p => by
    unfold natOf
    have hb : (natOf f n).testBit n = false := Nat.testBit_lt_two_pow (natOf_lt f n)
    cases hf : f n with
    | true =>
      rw [if_pos rfl, Nat.add_comm, add2_testBit hb, natOf_bit f n p]
      by_cases hp : p = n
      · subst hp; simp [hf]
      · by_cases h2 : p < n
        · have : p < n + 1 := by omega
          simp [hp, h2, this]
        · have : ¬ p < n + 1 := by omega
          simp [hp, h2, this]
    | false =>
      rw [if_neg Bool.false_ne_true, Nat.add_zero, natOf_bit f n p]
      by_cases hp : p = n
      · subst hp; simp [hf]
      · by_cases h2 : p < n
        · have : p < n + 1 := by omega
          simp [h2, this]
        · have : ¬ p < n + 1 := by omega
          simp [h2, this]
theorem sinkN_lt (st fl : Nat) : sinkN st fl < 2 ^ 14 := natOf_lt _ 14
theorem bitsTo_congr {a b : Nat} : ∀ n, (∀ p, p < n → a.testBit p = b.testBit p) → bitsTo a n = bitsTo b n := by
  intro n h
  unfold bitsTo
  rw [List.filter_congr fun p hp => h p (List.mem_range.mp hp)]
theorem flags_sum : ∀ (r n : Nat), r < 2 ^ n → ((bitsTo r n).map fun x => (2 : Int) ^ x.toNat).sum = (r : Int)
  | r, 0, h => by
    have : r = 0 := by simpa using h
    subst this; rfl
  | r, n + 1, h => by
    cases hb : r.testBit n with
    | true =>
      obtain ⟨h1, h2, h3⟩ := sub2 hb
      rw [bitsTo_yes hb, List.map_append, List.sum_append]
      have e : bitsTo r n = bitsTo (r - 2 ^ n) n := bitsTo_congr n fun p hp => by
        rw [h3]
        have : ¬ p = n := by omega
        simp [this]
      have hp : 2 ^ (n + 1) = 2 ^ n + 2 ^ n := by rw [Nat.pow_succ]; omega
      have h4 : r - 2 ^ n < 2 ^ n := by omega
      rw [e, flags_sum (r - 2 ^ n) n h4]
      have hc : ((2 : Int) ^ n) = ((2 ^ n : Nat) : Int) := by simp
      simp only [List.map_cons, List.map_nil, List.sum_cons, List.sum_nil, Int.toNat_natCast]
      rw [hc]; omega
    | false =>
      rw [bitsTo_no hb]
      refine flags_sum r n ?_
      rcases Nat.lt_or_ge r (2 ^ n) with h1 | h1
      · exact h1
      · have hp : 2 ^ (n + 1) = 2 ^ n + 2 ^ n := by rw [Nat.pow_succ]; omega
        have e : r = 2 ^ n + (r - 2 ^ n) := by omega
        have h4 : r - 2 ^ n < 2 ^ n := by omega
        rw [e, Nat.testBit_two_pow_add_eq, Nat.testBit_lt_two_pow h4] at hb
        cases hb
/-- the places of a class, the lowest first -/
theorem class_list : ∀ st ∈ [3, 4, 5, 6], ∀ c < st, (List.range 14).filter (fun p => decide (p % st = c)) = (List.range ((13 - c) / st + 1)).map (fun j => c + st * j) := by decide +kernel
theorem cls_count {st c : Nat} (hs : st = 3 ∨ st = 4 ∨ st = 5 ∨ st = 6) (hc : c < st) (r : Nat) : cls st c r = (List.range ((13 - c) / st + 1)).countP fun j => r.testBit (c + st * j) := by
  unfold cls
  have e := class_list st (by simp; exact hs) c hc
  have e2 : (List.range 14).countP (fun p => decide (p % st = c) && r.testBit p) = ((List.range 14).filter (fun p => decide (p % st = c))).countP r.testBit := by
    rw [List.countP_filter]
    refine List.countP_congr fun p _ => ?_
    rw [Bool.and_comm]
  rw [e2, e, List.countP_map]; rfl
theorem anti_count {g : Nat → Bool} : ∀ n, (∀ j, j + 1 < n → g (j + 1) = true → g j = true) → (List.range n).countP g ≤ n ∧ ∀ k, k < n → g k = decide (k < (List.range n).countP g)
  | 0, _ => ⟨Nat.le_refl _, fun k hk => absurd hk (Nat.not_lt_zero k)⟩
  | n + 1, h => by
    obtain ⟨h1, h2⟩ := anti_count n fun j hj => h j (by omega)
    rw [List.range_succ, List.countP_append]
    generalize (List.range n).countP g = m at *
    cases hg : g n with
    | true =>
      have e : [n].countP g = 1 := by simp [hg]
      rw [e]
      have hm : m = n := by
        cases n with
        | zero => omega
        | succ n' =>
          have h3 := h2 n' (by omega)
          rw [h n' (by omega) hg] at h3
          have := of_decide_eq_true h3.symm
          omega
      refine ⟨by omega, fun k hk => ?_⟩
      rcases Nat.lt_or_ge k n with h3 | h3
      · rw [h2 k h3, decide_eq_true (by omega : k < m), decide_eq_true (by omega : k < m + 1)]
      · have : k = n := by omega
        subst this
        rw [hg, decide_eq_true (by omega : k < m + 1)]
    | false =>
      have e : [n].countP g = 0 := by simp [hg]
      rw [e, Nat.add_zero]
      refine ⟨by omega, fun k hk => ?_⟩
      rcases Nat.lt_or_ge k n with h3 | h3
      · exact h2 k h3
      · have : k = n := by omega
        subst this
        rw [hg, decide_eq_false (by omega : ¬ k < m)]
theorem stable_bit {st r p : Nat} (hs : st = 3 ∨ st = 4 ∨ st = 5 ∨ st = 6) (hS : Stable st r) (hp : p < 14) : r.testBit p = decide (p / st < cls st (p % st) r) := by
  have h0 : 0 < st := by omega
  have hc : p % st < st := Nat.mod_lt _ h0
  rw [cls_count hs hc]
  have hd : p % st + st * (p / st) = p := Nat.mod_add_div p st
  have hk : p / st < (13 - p % st) / st + 1 := by
    have : p / st ≤ (13 - p % st) / st := (Nat.le_div_iff_mul_le h0).mpr (by rw [Nat.mul_comm]; omega)
    omega
  have h := (anti_count (g := fun j => r.testBit (p % st + st * j)) ((13 - p % st) / st + 1) fun j hj hg => ?_).2 (p / st) hk
  · simp only [hd] at h
    exact h
  · have hl : p % st + st * (j + 1) < 14 := by
      have h1 : (j + 1) * st ≤ 13 - p % st := (Nat.le_div_iff_mul_le h0).mp (by omega)
      rw [Nat.mul_comm] at h1
      have h2 : p % st < 6 := by omega
      omega
    have h3 := hS _ hl hg (by rw [Nat.mul_succ]; omega)
    have e : p % st + st * (j + 1) - st = p % st + st * j := by rw [Nat.mul_succ]; omega
    rw [e] at h3; exact h3
theorem high_bit {r p : Nat} (h : r < 2 ^ 14) (hp : ¬ p < 14) : r.testBit p = false := Nat.testBit_lt_two_pow (Nat.lt_of_lt_of_le h (Nat.pow_le_pow_right (by decide) (by omega)))
theorem sunk_eq {st fl r : Nat} (hs : st = 3 ∨ st = 4 ∨ st = 5 ∨ st = 6) (H : Sunk st fl r) : r = sinkN st fl := by
  refine Nat.eq_of_testBit_eq fun p => ?_
  unfold sinkN
  rw [natOf_bit]
  by_cases hp : p < 14
  · rw [stable_bit hs H.stable hp, H.same, decide_eq_true hp, Bool.true_and]
  · rw [high_bit H.lt hp, decide_eq_false hp, Bool.false_and]
theorem sink_bit (st fl p : Nat) : (sinkN st fl).testBit p = (decide (p < 14) && decide (p / st < cls st (p % st) fl)) := natOf_bit _ _ _
theorem sink_stable {st fl : Nat} (h0 : 0 < st) : Stable st (sinkN st fl) := by
  intro p hp h hs
  rw [sink_bit] at h ⊢
  simp only [Bool.and_eq_true, decide_eq_true_eq] at h ⊢
  obtain ⟨_, h⟩ := h
  have e1 : p / st = (p - st) / st + 1 := Nat.div_eq_sub_div h0 hs
  have e2 : p % st = (p - st) % st := Nat.mod_eq_sub_mod hs
  rw [← e2]
  exact ⟨by omega, by omega⟩
theorem stay_nums : ∀ q ∈ [(3, 4), (4, 3), (4, 5), (5, 4), (5, 6), (6, 5)], ∀ x < 14, q.1 ≤ x → (x - q.1) / q.2 + (List.range q.1).countP (fun p => decide (p % q.2 = x % q.2)) ≤ x / q.2 ∧ ∀ y < 14 - q.1, (q.1 + y) % q.2 = x % q.2 → y % q.2 = (x - q.1) % q.2 := by decide +kernel
theorem stay {f1 f2 r : Nat} (hq : (f1, f2) ∈ [(3, 4), (4, 3), (4, 5), (5, 4), (5, 6), (6, 5)]) (hS : Stable f1 r) : Stable f1 (sinkN f2 r) := by
  intro x hx h hs
  obtain ⟨h1, h2⟩ := stay_nums _ hq x hx hs
  dsimp only at h1 h2
  rw [sink_bit] at h ⊢
  simp only [Bool.and_eq_true, decide_eq_true_eq] at h ⊢
  refine ⟨by omega, ?_⟩
  have hf : f1 ≤ 14 := by omega
  have e : List.range 14 = List.range f1 ++ (List.range (14 - f1)).map (f1 + ·) := by
    rw [← List.range_add]; congr 1; omega
  have k1 : cls f2 (x % f2) r ≤ (List.range f1).countP (fun p => decide (p % f2 = x % f2)) + cls f2 ((x - f1) % f2) r := by
    unfold cls
    rw [e, List.countP_append, List.countP_map]
    refine Nat.add_le_add ?_ ?_
    · refine List.countP_mono_left fun p _ hp => ?_
      exact (Bool.and_eq_true_iff.mp hp).1
    · rw [← e]
      have hsub : (List.range (14 - f1)).Sublist (List.range 14) := List.range_sublist.mpr (by omega)
      refine Nat.le_trans (List.countP_mono_left fun y hy hp => ?_) (hsub.countP_le (p := fun p => decide (p % f2 = (x - f1) % f2) && r.testBit p))
      have hy' := List.mem_range.mp hy
      have hp' : (decide ((f1 + y) % f2 = x % f2) && r.testBit (f1 + y)) = true := hp
      simp only [Bool.and_eq_true, decide_eq_true_eq] at hp' ⊢
      refine ⟨h2 y hy' hp'.1, ?_⟩
      have := hS (f1 + y) (by omega) hp'.2 (by omega)
      rwa [Nat.add_sub_cancel_left] at this
  omega
theorem olsson {st f1 fl : Nat} (hs : st = 3 ∨ st = 4 ∨ st = 5) (hf1 : f1 = st ∨ f1 = st + 1) (_hf : fl < 2 ^ 14) : sinkN f1 (sinkN (2 * st + 1 - f1) (sinkN f1 fl)) = sinkN (2 * st + 1 - f1) (sinkN f1 fl) := by
  have hq : (f1, 2 * st + 1 - f1) ∈ [(3, 4), (4, 3), (4, 5), (5, 4), (5, 6), (6, 5)] := by
    rcases hs with rfl | rfl | rfl <;> rcases hf1 with rfl | rfl <;> decide
  have hS := stay hq (sink_stable (st := f1) (fl := fl) (by omega))
  exact (sunk_eq (by omega) ⟨sinkN_lt _ _, fun _ => rfl, hS⟩).symm
theorem both_stable {st f1 fl : Nat} (hs : st = 3 ∨ st = 4 ∨ st = 5) (hf1 : f1 = st ∨ f1 = st + 1) : Stable f1 (sinkN (2 * st + 1 - f1) (sinkN f1 fl)) ∧ Stable (2 * st + 1 - f1) (sinkN (2 * st + 1 - f1) (sinkN f1 fl)) := by
  have hq : (f1, 2 * st + 1 - f1) ∈ [(3, 4), (4, 3), (4, 5), (5, 4), (5, 6), (6, 5)] := by
    rcases hs with rfl | rfl | rfl <;> rcases hf1 with rfl | rfl <;> decide
  exact ⟨stay hq (sink_stable (st := f1) (fl := fl) (by omega)), sink_stable (by omega)⟩
/-- the packed list as a count -/
noncomputable def packS (st : Int) : List Int → List Int → List Int
  | _, [] => []
  | seen, x :: l => (x.fmod st + st * (seen.count (x.fmod st) : Int)) :: packS st (seen ++ [x.fmod st]) l
theorem packL_eq (st : Int) (l : List Int) : ∀ pre : List Int, ((List.range l.length).map fun i => (l.getD i 0).fmod st + st * (((pre.map fun k => k.fmod st) ++ ((l.map fun k => k.fmod st).take i)).count ((l.getD i 0).fmod st) : Int)) = packS st (pre.map fun k => k.fmod st) l := by
  induction l with
  | nil => intro pre; rfl
  | cons x l ih =>
    intro pre
    have h := ih (pre ++ [x])
    rw [List.map_append] at h
    unfold packS
    rw [List.length_cons, List.range_succ_eq_map, List.map_cons, List.map_map]
    refine congr (congrArg _ ?_) ?_
    · simp
    · refine Eq.trans ?_ h
      refine List.map_congr_left fun i _ => ?_
      simp
theorem pack_count (st : Nat) (h0 : 0 < st) (q : Nat) : ∀ (l seen : List Int), (∀ x ∈ l, 0 ≤ x) →
    ((packS (st : Int) seen l).count (q : Int)) = if seen.count (((q % st : Nat)) : Int) ≤ q / st ∧ q / st < seen.count ((q % st : Nat) : Int) + (l.map fun k => k.fmod (st : Int)).count ((q % st : Nat) : Int) then 1 else 0
  | [], seen, _ => by
    simp only [packS, List.count_nil, List.map_nil, Nat.add_zero]
    rw [if_neg (by omega)]
  | x :: l, seen, hx => by
    have ih := pack_count st h0 q l (seen ++ [x.fmod st]) fun y hy => hx y (List.mem_cons_of_mem _ hy)
    have hx0 := hx x (List.mem_cons_self ..)
    obtain ⟨n, rfl⟩ : ∃ n : Nat, x = n := ⟨x.toNat, by omega⟩
    have ef : (n : Int).fmod (st : Int) = ((n % st : Nat) : Int) := by
      rw [Int.fmod_eq_emod_of_nonneg _ (Int.natCast_nonneg _)]; rfl
    unfold packS
    rw [List.count_cons, ih, List.map_cons, ef]
    have hm : n % st < st := Nat.mod_lt _ h0
    have hq : q % st < st := Nat.mod_lt _ h0
    have hqd := Nat.mod_add_div q st
    have key : (((n % st : Nat) : Int) + (st : Int) * (seen.count ((n % st : Nat) : Int) : Int) == (q : Int)) = decide (n % st = q % st ∧ q / st = seen.count ((n % st : Nat) : Int)) := by
      have e : ((n % st : Nat) : Int) + (st : Int) * (seen.count ((n % st : Nat) : Int) : Int) = ((n % st + st * seen.count ((n % st : Nat) : Int) : Nat) : Int) := by simp
      rw [e]
      generalize seen.count ((n % st : Nat) : Int) = k
      rw [Bool.eq_iff_iff, beq_iff_eq, decide_eq_true_eq, Int.ofNat_inj]
      constructor
      · intro h
        rw [← h, Nat.add_mul_mod_self_left, Nat.add_mul_div_left _ _ h0, Nat.mod_mod, Nat.div_eq_of_lt hm]
        omega
      · rintro ⟨h1, h2⟩
        rw [h1, ← h2, hqd]
    rw [key]
    simp only [List.count_append, List.count_cons, List.count_nil, Nat.zero_add]
    clear key ih ef hqd
    by_cases hc : n % st = q % st
    · rw [hc]
      generalize List.count ((q % st : Nat) : Int) seen = a
      generalize List.count ((q % st : Nat) : Int) (List.map (fun k => k.fmod (st : Int)) l) = b
      generalize q / st = d
      simp only [beq_self_eq_true, if_true, true_and, decide_eq_true_eq]
      by_cases h1 : d = a
      · rw [if_neg (by omega), if_pos h1, if_pos (by omega)]
      · rw [if_neg h1, Nat.add_zero]
        by_cases h2 : a + 1 ≤ d ∧ d < a + 1 + b
        · rw [if_pos h2, if_pos (by omega)]
        · rw [if_neg h2, if_neg (by omega)]
    · have hne : ¬ ((n % st : Nat) : Int) = ((q % st : Nat) : Int) := by omega
      have hb : (((n % st : Nat) : Int) == ((q % st : Nat) : Int)) = false := by simpa using hne
      rw [hb]
      simp [hc]
theorem rests_count {st c : Nat} (fl : Nat) : ((bitsTo fl 14).map fun k => k.fmod (st : Int)).count (c : Int) = cls st c fl := by
  unfold bitsTo cls
  rw [List.map_map, List.count, List.countP_map, List.countP_filter]
  refine List.countP_congr fun p _ => ?_
  have ef : (Int.ofNat p).fmod (st : Int) = ((p % st : Nat) : Int) := by
    show (p : Int).fmod (st : Int) = _
    rw [Int.fmod_eq_emod_of_nonneg _ (Int.natCast_nonneg _)]; rfl
  simp only [Function.comp, ef]
  simp only [Bool.and_eq_true, beq_iff_eq, decide_eq_true_eq, Int.ofNat_inj]
theorem pack_nonneg (st : Nat) : ∀ (l seen : List Int), ∀ x ∈ packS (st : Int) seen l, (0 < st → (∀ y ∈ l, 0 ≤ y) → 0 ≤ x)
  | [], _, x, hx => by cases hx
  | y :: l, seen, x, hx => fun h0 hl => by
    unfold packS at hx
    rcases List.mem_cons.mp hx with rfl | hx
    · have h1 := Int.fmod_nonneg_of_pos y (show (0 : Int) < st by omega)
      have h2 : 0 ≤ (st : Int) * (seen.count (y.fmod st) : Int) := Int.mul_nonneg (by omega) (by omega)
      omega
    · exact pack_nonneg st l _ x hx h0 fun z hz => hl z (List.mem_cons_of_mem _ hz)
theorem count_range (f : Nat → Bool) (q n : Nat) : (((List.range n).filter f).map Int.ofNat).count (q : Int) = if q < n ∧ f q = true then 1 else 0 := by
  induction n with
  | zero => simp
  | succ n ih =>
    rw [List.range_succ, List.filter_append, List.map_append, List.count_append, ih]
    by_cases hq : q = n
    · subst hq
      cases hf : f q <;> simp [hf]
    · have hne : ¬ n = q := fun e => hq e.symm
      have : (List.map Int.ofNat (List.filter f [n])).count (q : Int) = 0 := by
        cases hf : f n
        · simp [hf]
        · simp only [List.filter_cons_of_pos hf, List.filter_nil, List.map_cons, List.map_nil, List.count_singleton]
          have : ((Int.ofNat n) == (q : Int)) = false := by
            simp only [Int.ofNat_eq_natCast, beq_eq_false_iff_ne]; omega
          rw [this]; rfl
      rw [this, Nat.add_zero]
      by_cases h2 : q < n ∧ f q = true
      · rw [if_pos h2, if_pos ⟨by omega, h2.2⟩]
      · rw [if_neg h2, if_neg (by intro h3; exact h2 ⟨by omega, h3.2⟩)]
theorem bitsTo_sorted (fl n : Nat) : (bitsTo fl n).Pairwise (· ≤ ·) := by
  unfold bitsTo
  rw [List.pairwise_map]
  refine List.Pairwise.filter _ ?_
  refine (List.pairwise_lt_range (n := n)).imp fun h => ?_
  simp only [Int.ofNat_eq_natCast]; omega
theorem cls_small {st c : Nat} (hs : st = 3 ∨ st = 4 ∨ st = 5 ∨ st = 6) (hc : c < st) (r : Nat) : cls st c r ≤ (13 - c) / st + 1 := by
  rw [cls_count hs hc]
  refine Nat.le_trans List.countP_le_length ?_
  rw [List.length_range]; exact Nat.le_refl _
theorem pack_eq {st fl : Nat} {ns : List Int} (hs : st = 3 ∨ st = 4 ∨ st = 5 ∨ st = 6) (hf : fl < 2 ^ 14) (hp : ns.Perm (packL (bitsTo fl 14) (st : Int))) (hso : ns.Pairwise (· ≤ ·)) : ns = bitsTo (sinkN st fl) 14 := by
  have h0 : 0 < st := by omega
  have e1 : packL (bitsTo fl 14) (st : Int) = packS (st : Int) [] (bitsTo fl 14) := packL_eq (st : Int) (bitsTo fl 14) []
  have hpos : ∀ x ∈ bitsTo fl 14, 0 ≤ x := fun x hx => (bitsTo_mem x hx).1
  have hperm : (packL (bitsTo fl 14) (st : Int)).Perm (bitsTo (sinkN st fl) 14) := by
    rw [e1]
    refine List.perm_iff_count.mpr fun a => ?_
    rcases Int.lt_or_le a 0 with ha | ha
    · rw [List.count_eq_zero.mpr, List.count_eq_zero.mpr]
      · exact fun hm => by have := (bitsTo_mem a hm).1; omega
      · exact fun hm => by have := pack_nonneg st _ _ a hm h0 hpos; omega
    · obtain ⟨q, rfl⟩ : ∃ q : Nat, a = q := ⟨a.toNat, by omega⟩
      rw [pack_count st h0 q _ _ hpos, rests_count]
      unfold bitsTo
      rw [count_range]
      simp only [List.count_nil, Nat.zero_le, true_and, Nat.zero_add, sink_bit, Bool.and_eq_true, decide_eq_true_eq]
      have hq : q % st < st := Nat.mod_lt _ h0
      have hb := cls_small hs hq fl
      have hd := Nat.mod_add_div q st
      have key : q / st < cls st (q % st) fl → q < 14 := fun h => by
        have h1 : q / st ≤ (13 - q % st) / st := by omega
        have h2 := (Nat.le_div_iff_mul_le h0).mp h1
        rw [Nat.mul_comm] at h2
        omega
      by_cases h : q / st < cls st (q % st) fl
      · rw [if_pos h, if_pos ⟨key h, key h, h⟩]
      · rw [if_neg h, if_neg fun h' => h h'.2.2]
  exact (hp.trans hperm).eq_of_pairwise (fun a b _ _ h1 h2 => Int.le_antisymm h1 h2) hso (bitsTo_sorted _ _)
end
section
noncomputable def gone (ns : List Int) (k : Nat) : Int := ns.sum - (packL ns ((k : Nat) : Int)).sum
noncomputable def dueTo (ns : List Int) : Nat → List (Int × Int)
  | 0 => []
  | k + 1 => if gone ns (k + 1) > 0 then dueTo ns k ++ [(((k + 1 : Nat) : Int), gone ns (k + 1))] else dueTo ns k
noncomputable def pairObj (r : Int × Int) (t1 t2 : Tok) : Obj := tupObj [.int r.1 t1, .int r.2 t2]
structure PairsIn (tups : List (Addr × Obj)) (refs : List Value) (rows : List (Int × Int)) : Prop where
  len : refs.length = rows.length
  row : ∀ (i : Nat) (r : Int × Int), rows[i]? = some r → ∃ (T : Addr) (t1 t2 : Tok), refs[i]? = some (Value.ref T) ∧ (T, pairObj r t1 t2) ∈ tups
theorem PairsIn.nil : PairsIn [] [] [] := ⟨rfl, fun i r h => by simp at h⟩
theorem PairsIn.snoc {tups : List (Addr × Obj)} {refs : List Value} {rows : List (Int × Int)} (R : PairsIn tups refs rows) (T : Addr) (r : Int × Int) (t1 t2 : Tok) : PairsIn ((T, pairObj r t1 t2) :: tups) (refs ++ [Value.ref T]) (rows ++ [r]) := by
  refine ⟨by rw [List.length_append, List.length_append, R.len]; rfl, fun i r' h => ?_⟩
  rcases Nat.lt_trichotomy i rows.length with hi | hi | hi
  · rw [List.getElem?_append_left hi] at h
    obtain ⟨T', a, b, e1, e2⟩ := R.row i r' h
    exact ⟨T', a, b, by rw [List.getElem?_append_left (R.len ▸ hi)]; exact e1, List.mem_cons_of_mem _ e2⟩
  · subst hi
    rw [List.getElem?_append_right (Nat.le_refl _), Nat.sub_self] at h
    cases h
    exact ⟨T, t1, t2, by rw [List.getElem?_append_right (Nat.le_of_eq R.len), R.len, Nat.sub_self]; rfl, List.mem_cons_self ..⟩
  · rw [List.getElem?_append_right (Nat.le_of_lt hi)] at h
    exfalso
    have : i - rows.length ≠ 0 := by omega
    obtain ⟨j, hj⟩ : ∃ j, i - rows.length = j + 1 := ⟨i - rows.length - 1, by omega⟩
    rw [hj] at h; simp at h
noncomputable def PairsAt (h₀ h : Heap) (D : Addr) (rows : List (Int × Int)) : Prop := ∃ (refs : List Value) (e : Nat), h.get? D = some (PySem.W.listOf refs.toArray e) ∧ h₀.get? D = none ∧ refs.length = rows.length ∧
  ∀ (i : Nat) (r : Int × Int), rows[i]? = some r → ∃ (T : Addr) (t1 t2 : Tok), refs[i]? = some (Value.ref T) ∧ h.get? T = some (pairObj r t1 t2) ∧ h₀.get? T = none
theorem due_len (ns : List Int) : ∀ k, (dueTo ns k).length ≤ k
  | 0 => Nat.le_refl _
  | k + 1 => by
    have := due_len ns k
    unfold dueTo
    split
    · rw [List.length_append, List.length_singleton]; omega
    · omega
theorem perm_sum {a b : List Int} (h : a.Perm b) : a.sum = b.sum := by
  induction h with
  | nil => rfl
  | cons x _ ih => rw [List.sum_cons, List.sum_cons, ih]
  | swap x y l => simp only [List.sum_cons]; omega
  | trans _ _ ih1 ih2 => exact ih1.trans ih2
local macro_rules | `(tactic| walk_at "newTuple") => `(tactic| refine Brk.go ?_)
local macro_rules | `(tactic| walk_at "call builtin:list.append") => `(tactic| refine Brk.go ?_)
set_option pp.deepTerms false
set_option pp.deepTerms.threshold 6
set_option maxRecDepth 100000 in
set_option maxHeartbeats 4000000 in
theorem due_spec {w : World} {mean : ExcName → Option Value} {mg mb : Str → Option Value} {dp un : Nat} {fr : Option (List Env)} {gd : Option (List Code)} {s : Shared} {Q E : Value → Shared → Prop} {l : Addr} {vs : List Value} {ns : List Int} {n : Nat} {t : Tok}
    (X : (hd.heap_1 w.params).In s.heap) (T : Top qv LO mean mg mb s.heap) (hA : dp + 10 < recursionLimit) (hl : s.heap.IsList l vs.toArray) (hI : IntsAre vs ns) (hb : ∀ x ∈ ns, 0 ≤ x ∧ x < 14) (hn : ns.length < 20) (hk : n ≤ 15)
    (hret : ∀ D h' tk', Kp s.heap h' → PairsAt s.heap h' D (dueTo ns n) → Q (.ref D) { s with heap := h', toks := tk' }) :
    wpAny (model PySem.Challenge.rw_rw0080_01.row.prog w) { handled := none, depth := dp, frames := fr, guards := gd, units := un } (call (.ref 152) [.ref l, .int (n : Int) t]) Q E s := by
  revert X; k_fill; intro X
  refine enter X T (by show dp < _; exact room 0 hA) (by k_is) (by k_is) [(Str.ofString "top", some (.int (n : Int) t)), (Str.ofString "beads", some (.ref l))] (BindsTo.of_eq rfl) rfl (locs rfl) (by decide) rfl rfl rfl ?_
  intro L h tk F N
  (try dsimp only); (try k_fold)
  have hvl := hI.length
  ((try (with_reducible show wpAny _ _ _ _ _ _)); (try k_fold))
  k_steps
  rename_i lA h5 l5 h6 F6 N6 h8 tk8 u1 u2 u3 hR F8 N8 kp8
  refine Brk.mk ?_
  obtain ⟨Jv, hJv⟩ : ∃ Jv : Nat → (Str → Option Value) → List (Addr × Obj) → Array GenState → Prop, Jv = (fun k m news gs => ∃ (u v : Option Value) (refs : List Value) (e : Nat) (tups : List (Addr × Obj)), m = mapOf [(Str.ofString "gone", u), (Str.ofString "size", v), (Str.ofString "due", some (.ref lA)), (Str.ofString "top", some (.int (n : Int) t)), (Str.ofString "beads", some (.ref l))] ∧
      news = (lA, PySem.W.listOf refs.toArray e) :: tups ∧ PairsIn tups refs (dueTo ns k) ∧ (∀ p ∈ tups, p.1 ≠ lA) ∧ gs = s.gens) := ⟨_, rfl⟩
  refine for_range (n := n) (m := mapOf [(Str.ofString "gone", none), (Str.ofString "size", none), (Str.ofString "due", some (.ref lA)), (Str.ofString "top", some (.int (n : Int) t)), (Str.ofString "beads", some (.ref l))])
    Jv
    rfl rfl rfl rfl hR (small_one (by omega) (by omega) (by omega) (by omega)) (by omega) (Fr.congr F8 (by walk_at "MAP")) N8 (fam hJv ⟨_, _, [], 0, [], rfl, rfl, .nil, (fun _ h => by cases h), rfl⟩) ?_ ?_
  · rintro k tk3 m' news' h' tk' gs' I oI hk3 hJ0 F' N' off
    (try (with_reducible show wpAny _ _ _ _ _ _)); (try k_fold)
    rw [hJv] at hJ0
    obtain ⟨u, v, refs, e, tups, rfl, rfl, hrows, hoffA, rfl⟩ := hJ0
    have e1 : (1 + (k : Int)) = ((k + 1 : Nat) : Int) := by omega
    rw [e1] at F'
    have hrl : refs.length ≤ 2000 := by rw [hrows.len]; have := due_len ns k; omega
    have oA : @Ne Nat lA I := off (lA, _) (List.mem_cons_self ..)
    (try dsimp only at F' N' ⊢)
    ((try (with_reducible show wpAny _ _ _ _ _ _)); (try k_fold))
    k_steps
    rename_i h9 tk9 t9 F9 N9
    refine Brk.mk ?_
    refine packed_spec (X.keeps F9.keep) (T.keeps F9.keep) (room 6 hA) (hl.at fun o e => F9.keep _ o e) hI hb hn ⟨by omega, by omega⟩ fun D10 ns10 ys10 e10 h10 tk10 kp10 hD0 hD1 hI10 hp10 _ => ?_
    have F10 := F9.keeps kp10
    have N10 := news_add F9 N9 kp10 hD0 hD1
    have hgn : ns.sum - ns10.sum = gone ns (k + 1) := by
      unfold gone
      have : ns10.sum = (packL ns ((k + 1 : Nat) : Int)).sum := perm_sum hp10
      rw [this]
    have hl10 : ns10.length < 20 := by rw [hp10.length_eq, List.length_map, List.length_range]; exact hn
    have hyl10 := hI10.length
    clear F9 N9 F' N'
    (try dsimp only at F10 N10 ⊢)
    ((try (with_reducible show wpAny _ _ _ _ _ _)); (try k_fold))
    k_steps
    · rename_i hS tkS tS FS NS h12 F12 N12 tk12 hpos
      refine Brk.mk ?_
      rw [hgn] at F12 hpos ⊢
      refine wpAny_newTuple ?_
      have N12b : News s.heap L h12 ((I, oI) :: (lA, PySem.W.listOf refs.toArray e) :: tups) := fun p hp => N12 p (List.mem_cons_of_mem _ hp)
      have N13 := N12b.push F12 (pairObj (((k + 1 : Nat) : Int), gone ns (k + 1)) tk3 tkS)
      have F13 := F12.push (pairObj (((k + 1 : Nat) : Int), gone ns (k + 1)) tk3 tkS)
      have hTA : @Ne Nat lA h12.objs.size := Nat.ne_of_lt (Heap.lt_size (N12b (lA, _) (List.mem_cons_of_mem _ (List.mem_cons_self ..))).1)
      have hTI : @Ne Nat I h12.objs.size := Nat.ne_of_lt (Heap.lt_size (N12b (I, oI) (List.mem_cons_self ..)).1)
      generalize hTT : h12.objs.size = TT at *
      have N14 : News s.heap L (h12.push (pairObj (((k + 1 : Nat) : Int), gone ns (k + 1)) tk3 tkS)) ((lA, PySem.W.listOf refs.toArray e) :: (I, oI) :: (TT, pairObj (((k + 1 : Nat) : Int), gone ns (k + 1)) tk3 tkS) :: tups) := by
        intro p hp
        refine N13 p ?_
        simp only [List.mem_cons] at hp ⊢
        rcases hp with h | h | h | h <;> simp [h]
      ((try (with_reducible show wpAny _ _ _ _ _ _)); (try k_fold))
      k_steps
      refine Brk.mk ?_
      have hoff : ∀ p ∈ (I, oI) :: (TT, pairObj (((k + 1 : Nat) : Int), gone ns (k + 1)) tk3 tkS) :: tups, p.1 ≠ lA := by
        intro p hp
        rcases List.mem_cons.mp hp with rfl | hp
        · exact Ne.symm oA
        · rcases List.mem_cons.mp hp with rfl | hp
          · exact Ne.symm hTA
          · exact hoffA p hp
      refine append_tail F13 N14 hoff (by rw [PySem.sizeLine_eq, List.size_toArray]; omega) fun h15 F15 N15 => ?_
      rw [List.push_toArray] at N15
      (try dsimp only at F15 N15 ⊢)
      refine wpAny_execs_nil ?_
      (try dsimp only)
      refine wpAny_execs_nil ?_
      have hw : dueTo ns (k + 1) = dueTo ns k ++ [(((k + 1 : Nat) : Int), gone ns (k + 1))] := by rw [dueTo, if_pos hpos]
      exact turn_next F15 N15 (by walk_at "MAP") (sub_re (l := [])) (off_re (l := []) off oA (Ne.symm hTI)) trivial (fam hJv ⟨_, _, refs ++ [Value.ref TT], e + 1, (TT, pairObj (((k + 1 : Nat) : Int), gone ns (k + 1)) tk3 tkS) :: tups, rfl, rfl, hw ▸ hrows.snoc TT _ tk3 tkS, List.forall_mem_cons.mpr ⟨Ne.symm hTA, hoffA⟩, rfl⟩)
    · rename_i hS tkS tS FS NS h12 F12 N12 tk12 hneg
      refine Brk.mk ?_
      rw [hgn] at hneg
      have hw : dueTo ns (k + 1) = dueTo ns k := by rw [dueTo, if_neg hneg]
      exact turn_next F12 N12 (by walk_at "MAP") (fun p hp => List.mem_cons_of_mem _ hp) off trivial (fam hJv ⟨_, _, refs, e, tups, rfl, rfl, hw ▸ hrows, hoffA, rfl⟩)
  · rintro m' news' h' tk' gs' hJ0 F' N'
    (try (with_reducible show wpAny _ _ _ _ _ _)); (try k_fold)
    rw [hJv] at hJ0
    obtain ⟨u, v, refs, e, tups, rfl, rfl, hrows, hoffA, rfl⟩ := hJ0
    (try dsimp only at F' N' ⊢)
    ((try (with_reducible show wpAny _ _ _ _ _ _)); (try k_fold))
    k_steps
    have hD := N' (lA, PySem.W.listOf refs.toArray e) (List.mem_cons_self ..)
    refine hret lA h' _ F'.keep ⟨refs, e, hD.1, hD.2.2, hrows.len, fun i r hi => ?_⟩
    obtain ⟨T, b1, b2, e1, e2⟩ := hrows.row i r hi
    have hT := N' _ (List.mem_cons_of_mem _ e2)
    exact ⟨T, b1, b2, e1, hT.1, hT.2.2⟩
end
section
section
variable {prog : Program} {w : World} {A : Around} {s : Shared} {R : Result → Shared → Prop}
theorem compTurn_two0 (elt target iter target2 iter2 : Expr) (ifs2 : List Expr) (scope : Scope) (pos : Pos) (it acc : Value) (env : Env) :
    compTurn (.ListComp elt [⟨target, iter, [], 0⟩, ⟨target2, iter2, ifs2, 0⟩] scope pos) 0 it acc env = (do
      standAt iter.pos
      match ← pyNext it with
      | none => pure (.done .next)
      | some v =>
        letOwnedTupleGo target it v
        assign target env v
        let x ← eval iter2 env
        standAt iter2.pos
        let x ← foldedSetIterable iter2 env x
        let _ ← runOwn (.compStart (.ListComp elt [⟨target, iter, [], 0⟩, ⟨target2, iter2, ifs2, 0⟩] scope pos) 1 (← holding [x] (pyIter x)) acc env) env
        again (.compLoop (.ListComp elt [⟨target, iter, [], 0⟩, ⟨target2, iter2, ifs2, 0⟩] scope pos) 0 it acc env)) := by rfl
theorem compTurn_two1 (elt target iter target2 iter2 : Expr) (ifs2 : List Expr) (scope : Scope) (pos : Pos) (it acc : Value) (env : Env) :
    compTurn (.ListComp elt [⟨target, iter, [], 0⟩, ⟨target2, iter2, ifs2, 0⟩] scope pos) 1 it acc env = (do
      standAt iter2.pos
      match ← pyNext it with
      | none => pure (.done .next)
      | some v =>
        letOwnedTupleGo target2 it v
        assign target2 env v
        let mut ok := true
        for c in ifs2 do
          if ok then ok ← isTrue c env (eval c env)
        if ok then
          (do let _ ← call (.builtin "list.append") [acc, ← eval elt env])
        again (.compLoop (.ListComp elt [⟨target, iter, [], 0⟩, ⟨target2, iter2, ifs2, 0⟩] scope pos) 1 it acc env)) := by rfl
theorem comp0_loop {elt target iter target2 iter2 : Expr} {ifs2 : List Expr} {scope : Scope} {pos : Pos} {it acc : Value} {env : Env} (I : Nat → Shared → Prop)
    (turn : ∀ n s, I n s → wpAny (model prog w) A (pyNext it) (fun r s₁ => match r with
      | none => R (.ok .next) s₁
      | some v => wpAny (model prog w) A (assign target env v) (fun _ s₂ => wpAny (model prog w) A (eval iter2 env) (fun x s₃ => wpAny (model prog w) A (pyIter x) (fun it2 s₄ =>
          codeAny (model prog w) A (.compStart (.ListComp elt [⟨target, iter, [], 0⟩, ⟨target2, iter2, ifs2, 0⟩] scope pos) 1 it2 acc env) (fun r s₅ => r = .ok .next ∧ ∃ m, m < n ∧ I m s₅) s₄)
          (fun _ _ => False) s₃) (fun _ _ => False) s₂) (fun _ _ => False) s₁) (fun _ _ => False) s)
    (n : Nat) (h : I n s) (ht : ∀ v, letOwnedTupleGo target it v = pure () := by intro _; rfl) (hs : ∀ x, foldedSetIterable iter2 env x = pure x) :
    codeAny (model prog w) A (.compLoop (.ListComp elt [⟨target, iter, [], 0⟩, ⟨target2, iter2, ifs2, 0⟩] scope pos) 0 it acc env) R s := by
  refine codeAny_loop rfl I (fun n s hI => ?_) n h
  show wpAny _ A ((compTurn (.ListComp elt [⟨target, iter, [], 0⟩, ⟨target2, iter2, ifs2, 0⟩] scope pos) 0 it acc env).onRaise (fun x => do noteFrame x env; theTreesLotGoes x)) _ _ s
  refine wpAny_noted ?_
  rw [compTurn_two0]
  refine wpAny_bind (wpAny_standAt (wpAny_bind (wpAny_mono (turn n s hI) (fun r s₁ h₁ => ?_) fun _ _ e => e.elim)))
  cases r with
  | none => exact wpAny_pure h₁
  | some v =>
    refine wpAny_bind (wpAny_of_eq (ht v) ?_)
    refine wpAny_bind (wpAny_mono h₁ (fun _ s₂ h₂ => ?_) fun _ _ e => e.elim)
    refine wpAny_bind (wpAny_mono h₂ (fun x s₃ h₃ => ?_) fun _ _ e => e.elim)
    refine wpAny_bind (wpAny_standAt ?_)
    refine wpAny_bind (wpAny_of_eq (hs x) ?_)
    refine wpAny_bind (wpAny_holding (wpAny_mono h₃ (fun it2 s₄ h₄ => ?_) fun _ _ e => e.elim))
    refine wpAny_bind (wpAny_runOwn (codeAny_mono h₄ fun r s₅ hr => ?_))
    obtain ⟨rfl, hm⟩ := hr
    exact wpAny_pure ⟨rfl, hm⟩
theorem comp1_loop {elt target iter target2 iter2 : Expr} {ct : Expr} {scope : Scope} {pos : Pos} {it acc : Value} {env : Env} (I : Nat → Shared → Prop)
    (turn : ∀ n s, I n s → wpAny (model prog w) A (pyNext it) (fun r s₁ => match r with
      | none => R (.ok .next) s₁
      | some v => wpAny (model prog w) A (assign target2 env v) (fun _ s₂ => wpAny (model prog w) A (isTrue ct env (eval ct env)) (fun ok s₃ =>
            if ok = true then wpAny (model prog w) A (eval elt env) (fun x s₄ => wpAny (model prog w) A (call (.builtin "list.append") [acc, x]) (fun _ s₅ => ∃ m, m < n ∧ I m s₅) (fun _ _ => False) s₄) (fun _ _ => False) s₃
            else ∃ m, m < n ∧ I m s₃) (fun _ _ => False) s₂) (fun _ _ => False) s₁) (fun _ _ => False) s)
    (n : Nat) (h : I n s) (ht : ∀ v, letOwnedTupleGo target2 it v = pure () := by intro _; rfl) :
    codeAny (model prog w) A (.compLoop (.ListComp elt [⟨target, iter, [], 0⟩, ⟨target2, iter2, [ct], 0⟩] scope pos) 1 it acc env) R s := by
  refine codeAny_loop rfl I (fun n s hI => ?_) n h
  show wpAny _ A ((compTurn (.ListComp elt [⟨target, iter, [], 0⟩, ⟨target2, iter2, [ct], 0⟩] scope pos) 1 it acc env).onRaise (fun x => do noteFrame x env; theTreesLotGoes x)) _ _ s
  refine wpAny_noted ?_
  rw [compTurn_two1]
  refine wpAny_bind (wpAny_standAt (wpAny_bind (wpAny_mono (turn n s hI) (fun r s₁ h₁ => ?_) fun _ _ e => e.elim)))
  cases r with
  | none => exact wpAny_pure h₁
  | some v =>
    refine wpAny_bind (wpAny_of_eq (ht v) ?_)
    refine wpAny_bind (wpAny_mono h₁ (fun _ s₂ h₂ => wpAny_bind (wpAny_mono (wpAny_tests_one h₂) (fun ok s₃ h₃ => ?_) fun _ _ e => e.elim)) fun _ _ e => e.elim)
    cases ok with
    | false => exact wpAny_pure ⟨rfl, h₃⟩
    | true =>
      exact wpAny_bind (wpAny_bind (wpAny_mono h₃ (fun x s₄ h₄ => wpAny_bind (wpAny_mono h₄ (fun _ s₅ h₅ => wpAny_pure (wpAny_pure ⟨rfl, h₅⟩)) fun _ _ e => e.elim)) fun _ _ e => e.elim))
theorem comp1_start {elt target iter target2 iter2 : Expr} {ifs2 : List Expr} {scope : Scope} {pos : Pos} {it acc : Value} {env : Env}
    (h0 : codeAny (model prog w) A (.compLoop (.ListComp elt [⟨target, iter, [], 0⟩, ⟨target2, iter2, ifs2, 0⟩] scope pos) 1 it acc env) R s)
    (h : wpAny (model prog w) A (pyIter it) (fun it' s' => codeAny (model prog w) A (.compLoop (.ListComp elt [⟨target, iter, [], 0⟩, ⟨target2, iter2, ifs2, 0⟩] scope pos) 1 it' acc env) R s') (fun _ _ => False) s) :
    codeAny (model prog w) A (.compStart (.ListComp elt [⟨target, iter, [], 0⟩, ⟨target2, iter2, ifs2, 0⟩] scope pos) 1 it acc env) R s := by
  refine codeAny_of_tree ?_
  show wpAny _ _ ((compStart (.ListComp elt [⟨target, iter, [], 0⟩, ⟨target2, iter2, ifs2, 0⟩] scope pos) 1 it acc env).onRaise (fun x => do noteFrame x env; standAt theWindowsPlace)) _ _ s
  refine wpAny_notedAt ?_
  unfold compStart
  show wpAny _ _ (ask >>= _) _ _ s
  refine wpAny_bind (wpAny_askSetting (wpAny_ite ?_))
  split
  · first
      | exact wpAny_bind (wpAny_pure (wpAny_pure (And.intro rfl h0)))
      | exact wpAny_pure (And.intro rfl h0)
  · first
      | exact wpAny_bind (wpAny_rule (wpAny_bind (wpAny_standAt (wpAny_bind (wpAny_mono h (fun it' s' h' => wpAny_pure (And.intro rfl h')) fun _ _ e => e.elim)))))
      | (refine wpAny_bind (wpAny_rule ?_); show wpAny _ _ (standAt iter2.pos >>= _) _ _ s; exact wpAny_bind (wpAny_standAt (wpAny_bind (wpAny_mono h (fun it' s' h' => wpAny_pure (And.intro rfl h')) fun _ _ e => e.elim))))
end
end
section
theorem fr_chg {h₀ h h' : Heap} {L a : Addr} {m : Str → Option Value} (F : Fr h₀ L h m) (hk : ∀ b o, b ≠ a → h.get? b = some o → h'.get? b = some o) (hL : L ≠ a) (ha : h₀.get? a = none) : Fr h₀ L h' m :=
  ⟨F.ns.at' fun o e => hk L o hL e, fun b o e => hk b o (fun q => by rw [q, ha] at e; cases e) (F.keep b o e), F.above⟩
theorem news_chg {h₀ h h' : Heap} {L a : Addr} {l : List (Addr × Obj)} (N : News h₀ L h l) (hk : ∀ b o, b ≠ a → h.get? b = some o → h'.get? b = some o) (off : ∀ p ∈ l, p.1 ≠ a) : News h₀ L h' l :=
  fun p hp => ⟨hk _ _ (off p hp) (N p hp).1, (N p hp).2⟩
section
variable {prog : Program} {w : World} {A : Around} {E : Value → Shared → Prop} {h₀ : Heap} {L : Addr} {m : Str → Option Value} {env : Env}
theorem block_2 {ct elt iter iter2 : Expr} {x y : Str} {px py : Pos} {scope : Scope} {cl : List (Str × Addr)} {pos : Pos} {s₂ : Shared} {its : Array Value} {ax : Addr} {news : List (Addr × Obj)} (Nn : Nat → Nat) (J : Nat → Nat → List Value → Prop) {RR : Value → Addr → Result → Shared → Prop}
    (hh : A.handled = none) (hsz : its.size ≤ 1000) (hN : ∀ i, i < its.size → Nn i ≤ 1000) (hlen : ∀ i j ys, J i j ys → ys.length ≤ 100000)
    (hcell : ∀ y ∈ scope.names, y.2 ≠ .cell) (hkind : scope.kind = .function) (hx : scope.names.lookup x = some .local) (hy : scope.names.lookup y = some .local) (hxy : x ≠ y)
    (F : Fr h₀ L s₂.heap m) (N : News h₀ L s₂.heap news) (S : LCg.SrcAt h₀ ax its news) (hs2 : ∀ C x, foldedSetIterable iter2 (compEnvC scope cl C env) x = pure x)
    (h0 : J 0 0 []) (hnext : ∀ i ys, i < its.size → J i (Nn i) ys → J (i + 1) 0 ys)
    (src2 : ∀ i v I oI C oC D ys m₂ h tk, i < its.size → its[i]? = some v → LCg.NsObj oC m₂ → m₂ x = some v → Fr h₀ L h m → News h₀ L h ((I, oI) :: (C, oC) :: (D, LCg.lst ys) :: news) →
      wpAny (model prog w) A (eval iter2 (compEnvC scope cl C env)) (fun xv s' => Brk (∃ r h' tk' t u v', xv = .ref r ∧ s' = { s₂ with heap := h', toks := tk' } ∧ IsRange h' r 0 (Nn i : Int) 1 t u v' ∧ Fr h₀ L h' m ∧
        News h₀ L h' ((I, oI) :: (C, oC) :: (D, LCg.lst ys) :: news))) (fun _ _ => False) { s₂ with heap := h, toks := tk })
    (turn : ∀ i j v t I2 oI2 C oC D ys m₂ h tk I oI, its[i]? = some v → i < its.size → j < Nn i → J i j ys → LCg.NsObj oC m₂ → m₂ x = some v → m₂ y = some (.int (j : Int) t) → Fr h₀ L h m → News h₀ L h ((I2, oI2) :: (C, oC) :: (D, LCg.lst ys) :: (I, oI) :: news) →
      wpAny (model prog w) A (isTrue ct (compEnvC scope cl C env) (eval ct (compEnvC scope cl C env))) (fun ok s' => if ok = true then
          wpAny (model prog w) A (eval elt (compEnvC scope cl C env)) (fun yv s'' => Brk (∃ h' tk', s'' = { s₂ with heap := h', toks := tk' } ∧ Fr h₀ L h' m ∧ News h₀ L h' ((I2, oI2) :: (C, oC) :: (D, LCg.lst ys) :: (I, oI) :: news) ∧ J i (j + 1) (ys ++ [yv]))) (fun _ _ => False) s'
        else Brk (∃ h' tk', s' = { s₂ with heap := h', toks := tk' } ∧ Fr h₀ L h' m ∧ News h₀ L h' ((I2, oI2) :: (C, oC) :: (D, LCg.lst ys) :: (I, oI) :: news) ∧ J i (j + 1) ys)) (fun _ _ => False) { s₂ with heap := h, toks := tk })
    (hRR : ∀ D C h tk m' ys, Fr h₀ L h m → News h₀ L h ((D, LCg.lst ys) :: news) → (∀ p ∈ news, p.1 ≠ D) → h.Ns C m' → h₀.get? C = none → h₀.get? D = none → C ≠ L → D ≠ L → C ≠ D → (∀ p ∈ news, p.1 ≠ C) → J its.size 0 ys → RR (.ref D) C (.ok .next) { s₂ with heap := h, toks := tk }) :
    wpAny (model prog w) A (pyIter (.ref ax)) (fun it s₂' => wpAny (model prog w) A (newList []) (fun acc s₃ => wpAny (model prog w) A (newFunctionEnv scope env.globals cl [] env.qual none .none (some env)) (fun cenv s₄ =>
      codeAny (model prog w) A (.compStart (.ListComp elt [⟨.Name x px, iter, [], 0⟩, ⟨.Name y py, iter2, [ct], 0⟩] scope pos) 0 it acc { cenv with scope := relabel scope env }) (RR acc cenv.locals) s₄) E s₃) E s₂') E s₂ := by
  have hl := S.list F.keep N
  have hlt : ax < s₂.heap.objs.size := by obtain ⟨_, e, _⟩ := hl; exact Heap.lt_size e
  refine wpAny_pyIter_list hl ?_
  refine wpAny_newObj_type (wpAny_newFunctionEnv hcell (by intro y hy; simp at hy) (fun h₁ hns₁ hsb₁ => ?_) hkind)
  dsimp only at hns₁ hsb₁ ⊢
  generalize hH1 : s₂.heap.push { cls := .type "list_iterator", data := .fields #[.ref ax, .int 0 0] } = H1 at hns₁ hsb₁ ⊢
  generalize hH2 : H1.push { cls := .type "list", dict := none, data := .seq ([] : List Value).toArray } = H2 at hns₁ hsb₁ ⊢
  have hz1 : H1.objs.size = s₂.heap.objs.size + 1 := by rw [← hH1, Heap.size_push]
  have hz2 : H2.objs.size = s₂.heap.objs.size + 2 := by rw [← hH2, Heap.size_push, hz1]
  have hLI : L < s₂.heap.objs.size := F.ns.lt
  have hnl : ∀ p ∈ news, p.1 < s₂.heap.objs.size := fun p hp => Heap.lt_size (N p hp).1
  have hab := F.above
  have gI1 : H1.get? s₂.heap.objs.size = some { cls := .type "list_iterator", data := .fields #[.ref ax, .int 0 0] } := by rw [← hH1]; exact Heap.get?_push_size _ rfl
  have gD2 : H2.get? H1.objs.size = some (LCg.lst []) := by rw [← hH2]; exact Heap.get?_push_size _ rfl
  have up2 : ∀ b o, H1.get? b = some o → H2.get? b = some o := fun b o e => by rw [← hH2]; exact Heap.get?_push_of_some _ e
  have up1 : ∀ b o, s₂.heap.get? b = some o → H1.get? b = some o := fun b o e => by rw [← hH1]; exact Heap.get?_push_of_some _ e
  have up3 : ∀ b o, H2.get? b = some o → h₁.get? b = some o := fun b o e => hsb₁.extBut b o (Nat.ne_of_lt (Heap.lt_size e)) (Heap.get?_push_of_some _ e)
  have gI := up3 _ _ (up2 _ _ gI1)
  have gD := up3 _ _ gD2
  have old : ∀ b o, s₂.heap.get? b = some o → h₁.get? b = some o := fun b o e => up3 _ _ (up2 _ _ (up1 _ _ e))
  have fresh₀ : ∀ b, s₂.heap.objs.size ≤ b → h₀.get? b = none := fun b hb => Heap.get?_none_of_le (Nat.le_trans hab (Nat.le_of_lt (Nat.lt_of_lt_of_le hLI hb)))
  rw [hz1] at gD
  generalize hD : H1.objs.size = D at *
  generalize hC : H2.objs.size = C at *
  generalize hI : s₂.heap.objs.size = I at *
  subst hz1 hz2
  have nL : ∀ b, I ≤ b → L ≠ b := fun b hb => Nat.ne_of_lt (Nat.lt_of_lt_of_le hLI hb)
  have nN : ∀ b, I ≤ b → ∀ p ∈ news, p.1 ≠ b := fun b hb p hp => Nat.ne_of_lt (Nat.lt_of_lt_of_le (hnl p hp) hb)
  have hID : (I : Nat) ≠ I + 1 := Nat.ne_of_lt (Nat.lt_succ_self _)
  have hIC : (I : Nat) ≠ I + 2 := Nat.ne_of_lt (Nat.lt_add_of_pos_right (by decide))
  have hDC : (I + 1 : Nat) ≠ I + 2 := Nat.ne_of_lt (Nat.lt_succ_self _)
  have hneI : ax ≠ I := Nat.ne_of_lt hlt
  obtain ⟨oC0, gC, hoC0⟩ := LCg.ns_obj hns₁
  have W := Walks.list (prog := prog) (w := w) hh I ax hneI its
  have keyloop : ∀ s₃ : Shared, (∃ tk, s₃ = { s₂ with heap := h₁, toks := tk }) → codeAny (model prog w) A (.compLoop (.ListComp elt [⟨.Name x px, iter, [], 0⟩, ⟨.Name y py, iter2, [ct], 0⟩] scope pos) 0 (.ref I) (.ref (I + 1)) (compEnvC scope cl (I + 2) env)) (RR (.ref (I + 1)) (I + 2)) s₃ := by
    rintro s₃ ⟨tk₀, rfl⟩
    obtain ⟨Iv, hIv⟩ : ∃ Iv : Nat → Shared → Prop, Iv = (fun n s' => ∃ h tk i ys m' oI oC, s' = { s₂ with heap := h, toks := tk } ∧ i ≤ its.size ∧ n = its.size + 1 - i ∧ h.IsListIter I ax i ∧ Fr h₀ L h m ∧ News h₀ L h ((I, oI) :: (I + 2, oC) :: (I + 1, LCg.lst ys) :: news) ∧ LCg.NsObj oC m' ∧ J i 0 ys) := ⟨_, rfl⟩
    refine comp0_loop Iv ?_ (its.size + 1) ?_ (by intro _; rfl) (hs2 _)
    rotate_left
    · rw [hIv]
      refine ⟨h₁, _, 0, [], _, { cls := .type "list_iterator", data := .fields #[.ref ax, .int 0 0] }, oC0, rfl, Nat.zero_le _, rfl, ⟨_, gI, rfl, rfl⟩, F.keeps old, ?_, hoC0, h0⟩
      exact List.forall_mem_cons.mpr ⟨⟨gI, Ne.symm (nL I (Nat.le_refl _)), fresh₀ I (Nat.le_refl _)⟩, List.forall_mem_cons.mpr ⟨⟨gC, Ne.symm (nL (I + 2) (Nat.le_add_right _ _)), fresh₀ (I + 2) (Nat.le_add_right _ _)⟩, List.forall_mem_cons.mpr ⟨⟨gD, Ne.symm (nL (I + 1) (Nat.le_succ _)), fresh₀ (I + 1) (Nat.le_succ _)⟩, N.grown old⟩⟩⟩
    · intro n s' hI0
      (with_reducible show wpAny _ _ _ _ _ _); k_fold
      rw [hIv] at hI0
      obtain ⟨h, tk, i, ys, m', oI, oC, rfl, hi, rfl, hit, F', N', hoC, hJ⟩ := hI0
      have N3 := N'
      simp only [News, List.forall_mem_cons] at N3
      obtain ⟨eI, eC, eD, eN⟩ := N3
      have hsrc : h.IsList ax its := S.list F'.keep eN
      by_cases hil : i < its.size
      · refine W.item i _ _ _ hil ⟨hit, hsrc⟩ fun v h₂ tk₂ hPv hst₂ hk₂ => ?_
        have hk₂' : ∀ b o, b ≠ I → h.get? b = some o → h₂.get? b = some o := fun b o hb e => hk₂ b o (by simpa using hb) e
        obtain ⟨oI2, gI2, rI2⟩ := hst₂.1
        have F₂ := fr_chg F' hk₂' (nL I (Nat.le_refl _)) (fresh₀ I (Nat.le_refl _))
        refine wpAny_assign_Name (wpAny_storeName_local (lookup_relabel_local hx) ((hoC.ns eC.1).at' fun o e => hk₂' _ o (Ne.symm hIC) e) (fun h₃ hn₃ hs₃ => ?_) (by simp [compEnvC, relabel, hkind]))
        have hk₃ : ∀ b o, b ≠ I + 2 → h₂.get? b = some o → h₃.get? b = some o := fun b o hb e => hs₃.extBut b o hb e
        obtain ⟨oC3, gC3, hoC3⟩ := LCg.ns_obj hn₃
        have F₃ := fr_chg F₂ hk₃ (nL (I + 2) (Nat.le_add_right _ _)) (fresh₀ (I + 2) (Nat.le_add_right _ _))
        have eN₃ : News h₀ L h₃ news := news_chg (news_chg eN hk₂' (nN I (Nat.le_refl _))) hk₃ (nN (I + 2) (Nat.le_add_right _ _))
        have N₃ : News h₀ L h₃ ((I, oI2) :: (I + 2, oC3) :: (I + 1, LCg.lst ys) :: news) := by
          refine List.forall_mem_cons.mpr ⟨⟨hk₃ _ _ hIC gI2, Ne.symm (nL I (Nat.le_refl _)), fresh₀ I (Nat.le_refl _)⟩, List.forall_mem_cons.mpr ⟨⟨gC3, Ne.symm (nL (I + 2) (Nat.le_add_right _ _)), fresh₀ (I + 2) (Nat.le_add_right _ _)⟩, List.forall_mem_cons.mpr ⟨⟨hk₃ _ _ hDC (hk₂' _ _ (Ne.symm hID) eD.1), eD.2⟩, eN₃⟩⟩⟩
        refine wpAny_mono (src2 i v I oI2 (I + 2) oC3 (I + 1) ys _ h₃ _ hil hPv hoC3 (by simp) F₃ N₃) (fun xv s5 h5 => ?_) fun _ _ e => e.elim
        obtain ⟨r, h₄, tk₄, t, u, v', rfl, rfl, hr, F₄, N₄⟩ := h5
        have hNi := hN i hil
        have small : Builtin.Range.small 0 (Nn i : Int) 1 = true := small_one (by decide) (by decide) (by omega) (by omega)
        have hn' : Builtin.Range.rangeSize 0 (Nn i : Int) 1 = ((Nn i : Nat) : Int) := by rw [rangeSize_nat]; simp
        refine wpAny_pyIter_range hr small ?_
        have N4 := N₄
        simp only [News, List.forall_mem_cons] at N4
        obtain ⟨fI, fC, fD, fN⟩ := N4
        have lI : I < h₄.objs.size := Heap.lt_size fI.1
        have lC : I + 2 < h₄.objs.size := Heap.lt_size fC.1
        have lD : I + 1 < h₄.objs.size := Heap.lt_size fD.1
        have lN : ∀ p ∈ news, p.1 < h₄.objs.size := fun p hp => Heap.lt_size (fN p hp).1
        have lL : L < h₄.objs.size := F₄.ns.lt
        have st2 : IsRangeIter (h₄.push { cls := .type "range_iterator", data := .fields #[rawInt 0, rawInt (Builtin.Range.rangeSize 0 (Nn i : Int) 1), rawInt 1] }) h₄.objs.size (0 + ((0 : Nat) : Int) * 1) ((Nn i : Int) - ((0 : Nat) : Int)) 1 := by
          show Heap.get? _ _ = some _
          rw [hn']; simpa using Heap.get?_push_size _ rfl
        have up4 : ∀ b o, h₄.get? b = some o → (h₄.push { cls := .type "range_iterator", data := .fields #[rawInt 0, rawInt (Builtin.Range.rangeSize 0 (Nn i : Int) 1), rawInt 1] }).get? b = some o := fun b o e => Heap.get?_push_of_some _ e
        have F5 := F₄.keeps up4
        have N5 := N₄.grown up4
        generalize hH5 : h₄.push { cls := .type "range_iterator", data := .fields #[rawInt 0, rawInt (Builtin.Range.rangeSize 0 (Nn i : Int) 1), rawInt 1] } = H5 at *
        generalize hI2 : h₄.objs.size = I2 at *
        have f2 : h₀.get? I2 = none := Heap.get?_none_of_le (Nat.le_trans hab (Nat.le_of_lt lL))
        have W2 := LCg.range_walks (prog := prog) (w := w) (I := I2) hh 0 (Nn i)
        have inner : codeAny (model prog w) A (.compLoop (.ListComp elt [⟨.Name x px, iter, [], 0⟩, ⟨.Name y py, iter2, [ct], 0⟩] scope pos) 1 (.ref I2) (.ref (I + 1)) (compEnvC scope cl (I + 2) env))
            (fun r s₅ => r = .ok .next ∧ ∃ m_1, m_1 < its.size + 1 - i ∧ Iv m_1 s₅) { s₂ with heap := H5, toks := tk₄ } := by
          obtain ⟨Iw, hIw⟩ : ∃ Iw : Nat → Shared → Prop, Iw = (fun n s' => ∃ h tk j ys m' oI3 oC, s' = { s₂ with heap := h, toks := tk } ∧ j ≤ Nn i ∧ n = Nn i + 1 - j ∧ IsRangeIter h I2 (0 + (j : Nat) * 1) ((Nn i : Int) - (j : Nat)) 1 ∧ Fr h₀ L h m ∧ News h₀ L h ((I2, oI3) :: (I + 2, oC) :: (I + 1, LCg.lst ys) :: (I, oI2) :: news) ∧ LCg.NsObj oC m' ∧ m' x = some v ∧ J i j ys) := ⟨_, rfl⟩
          refine comp1_loop Iw ?_ (Nn i + 1) ?_ (by intro _; rfl)
          rotate_left
          · rw [hIw]
            refine ⟨H5, tk₄, 0, ys, _, { cls := .type "range_iterator", data := .fields #[rawInt (0 + ((0 : Nat) : Int) * 1), rawInt ((Nn i : Int) - ((0 : Nat) : Int)), rawInt 1] }, oC3, rfl, Nat.zero_le _, rfl, st2, F5, ?_, hoC3, (by simp), hJ⟩
            simp only [News, List.forall_mem_cons] at N5
            obtain ⟨e1, e2, e3, e4⟩ := N5
            exact List.forall_mem_cons.mpr ⟨⟨st2, Ne.symm (Nat.ne_of_lt lL), f2⟩, List.forall_mem_cons.mpr ⟨e2, List.forall_mem_cons.mpr ⟨e3, List.forall_mem_cons.mpr ⟨e1, e4⟩⟩⟩⟩
          · intro n s' hI0
            (with_reducible show wpAny _ _ _ _ _ _); k_fold
            rw [hIw] at hI0
            obtain ⟨h, tk, j, ys, m', oI3, oC, rfl, hj, rfl, hit2, F', N', hoC, hmx, hJ⟩ := hI0
            have N3 := N'
            simp only [News, List.forall_mem_cons] at N3
            obtain ⟨e2, eC, eD, eI, eN⟩ := N3
            have nI2 : (I : Nat) ≠ I2 := Nat.ne_of_lt lI
            have nC2 : (I + 2 : Nat) ≠ I2 := Nat.ne_of_lt lC
            have nD2 : (I + 1 : Nat) ≠ I2 := Nat.ne_of_lt lD
            have nN2 : ∀ p ∈ news, p.1 ≠ I2 := fun p hp => Nat.ne_of_lt (lN p hp)
            by_cases hjl : j < Nn i
            · refine W2.item j _ _ _ hjl hit2 fun v2 h6 tk6 hP6 st6 hk6 => ?_
              have hk6' : ∀ b o, b ≠ I2 → h.get? b = some o → h6.get? b = some o := fun b o hb e => hk6 b o (by simpa using hb) e
              obtain ⟨tj, rfl⟩ := hP6
              rw [Int.zero_add]
              have F6 := fr_chg F' hk6' (Nat.ne_of_lt lL) f2
              refine wpAny_assign_Name (wpAny_storeName_local (lookup_relabel_local hy) ((hoC.ns eC.1).at' fun o e => hk6' _ o nC2 e) (fun h7 hn7 hs7 => ?_) (by simp [compEnvC, relabel, hkind]))
              have hk7 : ∀ b o, b ≠ I + 2 → h6.get? b = some o → h7.get? b = some o := fun b o hb e => hs7.extBut b o hb e
              obtain ⟨oC7, gC7, hoC7⟩ := LCg.ns_obj hn7
              have F7 := fr_chg F6 hk7 (nL (I + 2) (Nat.le_add_right _ _)) (fresh₀ (I + 2) (Nat.le_add_right _ _))
              have eN7 : News h₀ L h7 news := news_chg (news_chg eN hk6' nN2) hk7 (nN (I + 2) (Nat.le_add_right _ _))
              obtain ⟨oI7, gI7, stI7⟩ : ∃ oI7, h7.get? I2 = some oI7 ∧ ∀ g : Heap, g.get? I2 = some oI7 → IsRangeIter g I2 (0 + ((j + 1 : Nat) : Int) * 1) ((Nn i : Int) - ((j + 1 : Nat) : Int)) 1 := ⟨_, hk7 _ _ (Ne.symm nC2) st6, fun g e => e⟩
              have N7 : News h₀ L h7 ((I2, oI7) :: (I + 2, oC7) :: (I + 1, LCg.lst ys) :: (I, oI2) :: news) :=
                List.forall_mem_cons.mpr ⟨⟨gI7, Ne.symm (Nat.ne_of_lt lL), f2⟩, List.forall_mem_cons.mpr ⟨⟨gC7, eC.2⟩, List.forall_mem_cons.mpr ⟨⟨hk7 _ _ hDC (hk6' _ _ nD2 eD.1), eD.2⟩, List.forall_mem_cons.mpr ⟨⟨hk7 _ _ hIC (hk6' _ _ nI2 eI.1), eI.2⟩, eN7⟩⟩⟩⟩
              refine wpAny_mono (turn i j v tj I2 oI7 (I + 2) oC7 (I + 1) ys _ h7 _ I oI2 hPv hil hjl hJ hoC7 (by simp [hxy, hmx]) (by simp) F7 N7) (fun ok s8 h8 => ?_) fun _ _ e => e.elim
              cases ok with
              | true =>
                rw [if_pos rfl] at h8 ⊢
                refine wpAny_mono h8 (fun yv s9 h9 => ?_) fun _ _ e => e.elim
                obtain ⟨g9, tk9, rfl, F9, N9, hJ9⟩ := h9
                have N9b := N9
                simp only [News, List.forall_mem_cons] at N9b
                obtain ⟨q2, qC, qD, qI, qN⟩ := N9b
                have hyl := hlen _ _ _ hJ
                refine append_at (hsz := by rw [PySem.sizeLine_eq, List.size_toArray]; omega) qD.1 fun g10 hs10 hD10 => ?_
                have hk10 : ∀ b o, b ≠ I + 1 → g9.get? b = some o → g10.get? b = some o := fun b o hb e => hs10.extBut b o hb e
                refine ⟨Nn i + 1 - (j + 1), by omega, ?_⟩
                rw [hIw]
                refine ⟨g10, tk9, j + 1, ys ++ [yv], _, oI7, oC7, rfl, hjl, rfl, stI7 _ (hk10 _ _ (Ne.symm nD2) q2.1), fr_chg F9 hk10 (nL (I + 1) (Nat.le_succ _)) (fresh₀ (I + 1) (Nat.le_succ _)), ?_, hoC7, (by simp [hxy, hmx]), hJ9⟩
                exact List.forall_mem_cons.mpr ⟨⟨hk10 _ _ (Ne.symm nD2) q2.1, q2.2⟩, List.forall_mem_cons.mpr ⟨⟨hk10 _ _ (Ne.symm hDC) qC.1, qC.2⟩, List.forall_mem_cons.mpr ⟨⟨hD10.trans (congrArg some (LCg.lst_snoc ys yv)), qD.2⟩, List.forall_mem_cons.mpr ⟨⟨hk10 _ _ hID qI.1, qI.2⟩, news_chg qN hk10 (nN (I + 1) (Nat.le_succ _))⟩⟩⟩⟩
              | false =>
                rw [if_neg Bool.false_ne_true] at h8 ⊢
                obtain ⟨g9, tk9, rfl, F9, N9, hJ9⟩ := h8
                refine ⟨Nn i + 1 - (j + 1), by omega, ?_⟩
                rw [hIw]
                exact ⟨g9, tk9, j + 1, ys, _, oI7, oC7, rfl, hjl, rfl, stI7 _ (N9 (I2, oI7) (List.mem_cons_self ..)).1, F9, N9, hoC7, (by simp [hxy, hmx]), hJ9⟩
            · obtain rfl : j = Nn i := Nat.le_antisymm hj (Nat.not_lt.mp hjl)
              refine W2.done _ _ _ hit2 fun h6 tk6 hk6 => ?_
              have hk6' : ∀ b o, b ≠ I2 → h.get? b = some o → h6.get? b = some o := fun b o hb e => hk6 b o (by simpa using hb) e
              refine ⟨rfl, its.size + 1 - (i + 1), by omega, ?_⟩
              rw [hIv]
              refine ⟨h6, tk6, i + 1, ys, m', oI2, oC, rfl, hil, rfl, ⟨oI2, hk6' _ _ nI2 eI.1, rI2⟩, fr_chg F' hk6' (Nat.ne_of_lt lL) f2, ?_, hoC, hnext i ys hil hJ⟩
              exact List.forall_mem_cons.mpr ⟨⟨hk6' _ _ nI2 eI.1, eI.2⟩, List.forall_mem_cons.mpr ⟨⟨hk6' _ _ nC2 eC.1, eC.2⟩, List.forall_mem_cons.mpr ⟨⟨hk6' _ _ nD2 eD.1, eD.2⟩, news_chg eN hk6' nN2⟩⟩⟩
        exact comp1_start inner (W2.self 0 _ _ _ st2 inner)
      · obtain rfl : i = its.size := Nat.le_antisymm hi (Nat.not_lt.mp hil)
        refine W.done _ _ _ ⟨hit, hsrc⟩ fun h₂ tk₂ hk₂ => ?_
        have hk₂' : ∀ b o, b ≠ I → h.get? b = some o → h₂.get? b = some o := fun b o hb e => hk₂ b o (by simpa using hb) e
        have F₂ := fr_chg F' hk₂' (nL I (Nat.le_refl _)) (fresh₀ I (Nat.le_refl _))
        have eN₂ := news_chg eN hk₂' (nN I (Nat.le_refl _))
        exact hRR (I + 1) (I + 2) h₂ tk₂ m' ys F₂ (List.forall_mem_cons.mpr ⟨⟨hk₂' _ _ (Ne.symm hID) eD.1, eD.2⟩, eN₂⟩) (nN (I + 1) (Nat.le_succ _)) ((hoC.ns eC.1).at' fun o e => hk₂' _ o (Ne.symm hIC) e) (fresh₀ (I + 2) (Nat.le_add_right _ _)) (fresh₀ (I + 1) (Nat.le_succ _)) (Ne.symm (nL (I + 2) (Nat.le_add_right _ _))) (Ne.symm (nL (I + 1) (Nat.le_succ _))) (Ne.symm hDC) (nN (I + 2) (Nat.le_add_right _ _)) hJ
  exact codeAny_compStart_list (keyloop _ ⟨_, rfl⟩) (W.self 0 _ _ _ ⟨⟨_, gI, rfl, rfl⟩, hl.at fun o e => old _ o e⟩ (keyloop _ ⟨_, rfl⟩))
theorem Assign_two {ct elt iter iter2 : Expr} {x y z : Str} {px py pz : Pos} {scope : Scope} {cl : List (Str × Addr)} {pos spos : Pos} {s : Shared} {Q : Flow → Shared → Prop} (F₀ : Fr h₀ L s.heap m) (hLe : env.locals = L)
    (hsw : swapsWith (.ListComp elt [⟨.Name x px, iter, [], 0⟩, ⟨.Name y py, iter2, [ct], 0⟩] scope pos) (some (.Name z pz)) spos.line env = pure true)
    (hclos : closureFor scope env = pure cl) (hkind : scope.kind = .function)
    (hnames : ∀ z ∈ scope.names, z.2 = .local → scope.names.lookup z.1 = some .local)
    (hz : env.kindOf z = some .local) (hp : (env.scope.kind == .class || (env.scope.kind == .module && env.locals != env.globals)) = false)
    (hs : ∀ x, foldedSetIterable iter env x = pure x)
    (h : wpAny (model prog w) A (eval iter env) (fun xv s₁ => Brk (∃ (ax : Addr) (news : List (Addr × Obj)) (Pp : List Value → Prop), xv = .ref ax ∧
      (∀ RR : Value → Addr → Result → Shared → Prop, (∀ D C h tk m' ys, Fr h₀ L h m → News h₀ L h ((D, LCg.lst ys) :: news) → (∀ p ∈ news, p.1 ≠ D) → h.Ns C m' → h₀.get? C = none → h₀.get? D = none → C ≠ L → D ≠ L → C ≠ D → (∀ p ∈ news, p.1 ≠ C) → Pp ys → RR (.ref D) C (.ok .next) { s₁ with heap := h, toks := tk }) →
        wpAny (model prog w) A (pyIter (.ref ax)) (fun it s₂' => wpAny (model prog w) A (newList []) (fun acc s₃ => wpAny (model prog w) A (newFunctionEnv scope env.globals cl [] env.qual none .none (some env)) (fun cenv s₄ =>
          codeAny (model prog w) A (.compStart (.ListComp elt [⟨.Name x px, iter, [], 0⟩, ⟨.Name y py, iter2, [ct], 0⟩] scope pos) 0 it acc { cenv with scope := relabel scope env }) (RR acc cenv.locals) s₄) E s₃) E s₂') E s₁) ∧
      (∀ D h tk ys, Fr h₀ L h (fun q => if q = z then some (.ref D) else m q) → News h₀ L h ((D, LCg.lst ys) :: news) → (∀ p ∈ news, p.1 ≠ D) → Pp ys → Q .next { s₁ with heap := h, toks := tk }))) E s) :
    wpAny (model prog w) A (exec (.Assign [.Name z pz] (.ListComp elt [⟨.Name x px, iter, [], 0⟩, ⟨.Name y py, iter2, [ct], 0⟩] scope pos) spos) env) Q E s := by
  subst hLe
  rw [exec_Assign_Name_used _ _ _ _ hsw]
  refine wpAny_bind (wpAny_standAt (wpAny_bind ?_))
  show wpAny _ A (do let _ ← comprehension (.ListComp elt [⟨.Name x px, iter, [], 0⟩, ⟨.Name y py, iter2, [ct], 0⟩] scope pos) scope env _ (newList []) false (eval iter env) (some (assign (.Name z pz) env))) _ _ s
  refine wpAny_bind (wpAny_mono (wpAny_comprehension_free (use := some (assign (.Name z pz) env)) (Q := fun _ s' => Q .next s') rfl hs hclos hkind hnames
    (wpAny_mono h (fun xv s₁ h₁ => ?_) fun _ _ e => e)) (fun _ s' hq => wpAny_pure (wpAny_pure hq)) fun _ _ e => e)
  obtain ⟨ax, news, Pp, rfl, hrun, hfin⟩ := h₁
  refine hrun _ ?_
  intro D C h' tk m' ys F' N' o1 hn hC₀ hD₀ hCL hDL hCD offC fin
  show wpAny _ A (assign (.Name z pz) env (.ref D)) _ _ _
  refine wpAny_assign_Name (wpAny_storeName_local hz F'.ns (fun h₂ hn₂ hs₂ => ?_) hp)
  have hL₀ : h₀.get? env.locals = none := Heap.get?_none_of_le F'.above
  have F₂ : Fr h₀ env.locals h₂ (fun q => if q = z then some (.ref D) else m q) := ⟨hn₂, fun b o e => hs₂.extBut b o (fun q => by rw [q, hL₀] at e; cases e) (F'.keep b o e), F'.above⟩
  refine ⟨m', hn.sameBut hs₂ hCL, fun h'' hs'' => hfin D h'' _ ys (F₂.change hs'' hCL hC₀) (fun p hp => ?_) o1 fin⟩
  have zz : h₂.get? p.1 = some p.2 := hs₂.extBut _ _ (N' p hp).2.1 (N' p hp).1
  refine ⟨hs''.extBut _ _ ?_ zz, (N' p hp).2⟩
  rcases List.mem_cons.mp hp with rfl | hp
  · exact Ne.symm hCD
  · exact offC p hp
end
end
section
section
variable {prog : Program} {w : World} {A : Around} {E : Value → Shared → Prop} {s : Shared}
noncomputable def CStep (prog : Program) (w : World) (A : Around) (ifs : List Expr) (elt : Expr) (env : Env) (K : Option Value → Shared → Prop) (s : Shared) : Prop := match ifs with
  | [] => wpAny (model prog w) A (eval elt env) (fun y s' => K (some y) s') (fun _ _ => False) s
  | [ct] => wpAny (model prog w) A (isTrue ct env (eval ct env)) (fun ok s' => if ok = true then wpAny (model prog w) A (eval elt env) (fun y s'' => K (some y) s'') (fun _ _ => False) s' else K none s') (fun _ _ => False) s
  | _ => False
theorem CStep.mono {ifs : List Expr} {elt : Expr} {env : Env} {K K' : Option Value → Shared → Prop} (h : CStep prog w A ifs elt env K s) (hk : ∀ o s', K o s' → K' o s') : CStep prog w A ifs elt env K' s := by
  match ifs, h with
  | [], h => exact wpAny_mono h (fun _ _ q => hk _ _ q) fun _ _ e => e
  | [ct], h =>
    refine wpAny_mono h (fun ok s' q => ?_) fun _ _ e => e
    cases ok with
    | true => exact wpAny_mono q (fun _ _ q => hk _ _ q) fun _ _ e => e
    | false => exact hk _ _ q
  | _ :: _ :: _, h => exact h.elim
theorem comp3_loop {elt target iter : Expr} {ifs : List Expr} {scope : Scope} {pos : Pos} {it acc : Value} {env : Env} {R : Result → Shared → Prop} (I : Nat → Shared → Prop)
    (turn : ∀ n s, I n s → wpAny (model prog w) A (pyNext it) (fun r s₁ => match r with
      | none => R (.ok .next) s₁
      | some v => wpAny (model prog w) A (letOwnedTupleGo target it v) (fun _ s₂ => wpAny (model prog w) A (assign target env v) (fun _ s₃ => CStep prog w A ifs elt env (fun o s₄ => match o with
          | some x => wpAny (model prog w) A (call (.builtin "list.append") [acc, x]) (fun _ s₅ => ∃ m, m < n ∧ I m s₅) (fun _ _ => False) s₄
          | none => ∃ m, m < n ∧ I m s₄) s₃) (fun _ _ => False) s₂) (fun _ _ => False) s₁) (fun _ _ => False) s)
    (n : Nat) (h : I n s) : codeAny (model prog w) A (.compLoop (.ListComp elt [⟨target, iter, ifs, 0⟩] scope pos) 0 it acc env) R s := by
  refine codeAny_loop rfl I (fun n s hI => ?_) n h
  show wpAny _ A ((compTurn (.ListComp elt [⟨target, iter, ifs, 0⟩] scope pos) 0 it acc env).onRaise (fun x => do noteFrame x env; theTreesLotGoes x)) _ _ s
  refine wpAny_noted ?_
  rw [compTurn_list]
  refine wpAny_bind (wpAny_standAt (wpAny_bind (wpAny_mono (turn n s hI) (fun r s₁ h₁ => ?_) fun _ _ e => e.elim)))
  cases r with
  | none => exact wpAny_pure h₁
  | some v =>
    refine wpAny_bind (wpAny_mono h₁ (fun _ s₂ h₂ => ?_) fun _ _ e => e.elim)
    refine wpAny_bind (wpAny_mono h₂ (fun _ s₃ h₃ => ?_) fun _ _ e => e.elim)
    clear turn h₁ h₂
    cases ifs with
    | nil =>
      refine wpAny_bind (wpAny_tests_nil ?_)
      exact wpAny_bind (wpAny_bind (wpAny_mono h₃ (fun x s₄ h₄ => wpAny_bind (wpAny_mono h₄ (fun _ s₅ h₅ => wpAny_pure (wpAny_pure ⟨rfl, h₅⟩)) fun _ _ e => e.elim)) fun _ _ e => e.elim))
    | cons ct r =>
      cases r with
      | cons a b => exact h₃.elim
      | nil =>
        refine wpAny_bind (wpAny_mono (wpAny_tests_one h₃) (fun ok s₄ h₄ => ?_) fun _ _ e => e.elim)
        cases ok with
        | false => exact wpAny_pure ⟨rfl, h₄⟩
        | true =>
          exact wpAny_bind (wpAny_bind (wpAny_mono h₄ (fun x s₄ h₄ => wpAny_bind (wpAny_mono h₄ (fun _ s₅ h₅ => wpAny_pure (wpAny_pure ⟨rfl, h₅⟩)) fun _ _ e => e.elim)) fun _ _ e => e.elim))
end
section
variable {prog : Program} {w : World} {A : Around} {E : Value → Shared → Prop} {h₀ : Heap} {L : Addr} {m : Str → Option Value} {env : Env}
theorem block_3 {elt iter : Expr} {ifs : List Expr} {x y z : Str} {px py pz tp : Pos} {kk} {scope : Scope} {cl : List (Str × Addr)} {pos : Pos} {s₂ : Shared} {its : Array Value} {ax : Addr} {news : List (Addr × Obj)} (J : Nat → List Value → List (Addr × Obj) → Prop) {RR : Value → Addr → Result → Shared → Prop}
    (hh : A.handled = none) (hsz : its.size ≤ 1000) (hlen : ∀ i ys nw, J i ys nw → ys.length ≤ i ∧ LCg.SrcAt h₀ ax its nw)
    (hcell : ∀ y ∈ scope.names, y.2 ≠ .cell) (hkind : scope.kind = .function) (hx : scope.names.lookup x = some .local) (hy : scope.names.lookup y = some .local) (hz : scope.names.lookup z = some .local) (hxy : x ≠ y) (hxz : x ≠ z) (hyz : y ≠ z)
    (F : Fr h₀ L s₂.heap m) (N : News h₀ L s₂.heap news) (h0 : J 0 [] news)
    (turn : ∀ i v ys nw, its[i]? = some v → J i ys nw → ∃ (t : Addr) (ot : Obj) (v₁ v₂ v₃ : Value) (nt : Nat), v = .ref t ∧ (t, ot) ∈ nw ∧ ot.cls = .type "tuple" ∧ ot.data = .seq #[v₁, v₂, v₃] nt ∧
      ∀ I oI C oC D m₂ h tk, LCg.NsObj oC m₂ → m₂ x = some v₁ → m₂ y = some v₂ → m₂ z = some v₃ → Fr h₀ L h m → News h₀ L h ((I, oI) :: (C, oC) :: (D, LCg.lst ys) :: nw) → (∀ p ∈ nw, p.1 ≠ I ∧ p.1 ≠ C ∧ p.1 ≠ D) → ((@Ne Nat I C) ∧ (@Ne Nat I D) ∧ (@Ne Nat C D)) →
        CStep prog w A ifs elt (compEnvC scope cl C env) (fun o s' => Brk (∃ h' tk' nw', s' = { s₂ with heap := h', toks := tk' } ∧ Fr h₀ L h' m ∧ News h₀ L h' ((I, oI) :: (C, oC) :: (D, LCg.lst ys) :: nw') ∧ (∀ p ∈ nw', p.1 ≠ I ∧ p.1 ≠ C ∧ p.1 ≠ D) ∧
          J (i + 1) (match o with | some yv => ys ++ [yv] | none => ys) nw')) { s₂ with heap := h, toks := tk })
    (hRR : ∀ D C h tk m' ys nw, Fr h₀ L h m → News h₀ L h ((D, LCg.lst ys) :: nw) → (∀ p ∈ nw, p.1 ≠ D) → h.Ns C m' → h₀.get? C = none → h₀.get? D = none → C ≠ L → D ≠ L → C ≠ D → (∀ p ∈ nw, p.1 ≠ C) → J its.size ys nw → RR (.ref D) C (.ok .next) { s₂ with heap := h, toks := tk }) :
    wpAny (model prog w) A (pyIter (.ref ax)) (fun it s₂' => wpAny (model prog w) A (newList []) (fun acc s₃ => wpAny (model prog w) A (newFunctionEnv scope env.globals cl [] env.qual none .none (some env)) (fun cenv s₄ =>
      codeAny (model prog w) A (.compStart (.ListComp elt [⟨.Tuple [.Name x px, .Name y py, .Name z pz] kk tp, iter, ifs, 0⟩] scope pos) 0 it acc { cenv with scope := relabel scope env }) (RR acc cenv.locals) s₄) E s₃) E s₂') E s₂ := by
  have hl := (hlen _ _ _ h0).2.list F.keep N
  have hlt : ax < s₂.heap.objs.size := by obtain ⟨_, e, _⟩ := hl; exact Heap.lt_size e
  refine wpAny_pyIter_list hl ?_
  refine wpAny_newObj_type (wpAny_newFunctionEnv hcell (by intro y hy; simp at hy) (fun h₁ hns₁ hsb₁ => ?_) hkind)
  dsimp only at hns₁ hsb₁ ⊢
  generalize hH1 : s₂.heap.push { cls := .type "list_iterator", data := .fields #[.ref ax, .int 0 0] } = H1 at hns₁ hsb₁ ⊢
  generalize hH2 : H1.push { cls := .type "list", dict := none, data := .seq ([] : List Value).toArray } = H2 at hns₁ hsb₁ ⊢
  have hz1 : H1.objs.size = s₂.heap.objs.size + 1 := by rw [← hH1, Heap.size_push]
  have hz2 : H2.objs.size = s₂.heap.objs.size + 2 := by rw [← hH2, Heap.size_push, hz1]
  have hLI : L < s₂.heap.objs.size := F.ns.lt
  have hnl : ∀ p ∈ news, p.1 < s₂.heap.objs.size := fun p hp => Heap.lt_size (N p hp).1
  have hab := F.above
  have gI1 : H1.get? s₂.heap.objs.size = some { cls := .type "list_iterator", data := .fields #[.ref ax, .int 0 0] } := by rw [← hH1]; exact Heap.get?_push_size _ rfl
  have gD2 : H2.get? H1.objs.size = some (LCg.lst []) := by rw [← hH2]; exact Heap.get?_push_size _ rfl
  have up2 : ∀ b o, H1.get? b = some o → H2.get? b = some o := fun b o e => by rw [← hH2]; exact Heap.get?_push_of_some _ e
  have up1 : ∀ b o, s₂.heap.get? b = some o → H1.get? b = some o := fun b o e => by rw [← hH1]; exact Heap.get?_push_of_some _ e
  have up3 : ∀ b o, H2.get? b = some o → h₁.get? b = some o := fun b o e => hsb₁.extBut b o (Nat.ne_of_lt (Heap.lt_size e)) (Heap.get?_push_of_some _ e)
  have gI := up3 _ _ (up2 _ _ gI1)
  have gD := up3 _ _ gD2
  have old : ∀ b o, s₂.heap.get? b = some o → h₁.get? b = some o := fun b o e => up3 _ _ (up2 _ _ (up1 _ _ e))
  have fresh₀ : ∀ b, s₂.heap.objs.size ≤ b → h₀.get? b = none := fun b hb => Heap.get?_none_of_le (Nat.le_trans hab (Nat.le_of_lt (Nat.lt_of_lt_of_le hLI hb)))
  rw [hz1] at gD
  generalize hD : H1.objs.size = D at *
  generalize hC : H2.objs.size = C at *
  generalize hI : s₂.heap.objs.size = I at *
  subst hz1 hz2
  have nL : ∀ b, I ≤ b → L ≠ b := fun b hb => Nat.ne_of_lt (Nat.lt_of_lt_of_le hLI hb)
  have nN : ∀ b, I ≤ b → ∀ p ∈ news, p.1 ≠ b := fun b hb p hp => Nat.ne_of_lt (Nat.lt_of_lt_of_le (hnl p hp) hb)
  have hID : (I : Nat) ≠ I + 1 := Nat.ne_of_lt (Nat.lt_succ_self _)
  have hIC : (I : Nat) ≠ I + 2 := Nat.ne_of_lt (Nat.lt_add_of_pos_right (by decide))
  have hDC : (I + 1 : Nat) ≠ I + 2 := Nat.ne_of_lt (Nat.lt_succ_self _)
  have hneI : ax ≠ I := Nat.ne_of_lt hlt
  obtain ⟨oC0, gC, hoC0⟩ := LCg.ns_obj hns₁
  have W := Walks.list (prog := prog) (w := w) hh I ax hneI its
  have keyloop : ∀ s₃ : Shared, (∃ tk, s₃ = { s₂ with heap := h₁, toks := tk }) → codeAny (model prog w) A (.compLoop (.ListComp elt [⟨.Tuple [.Name x px, .Name y py, .Name z pz] kk tp, iter, ifs, 0⟩] scope pos) 0 (.ref I) (.ref (I + 1)) (compEnvC scope cl (I + 2) env)) (RR (.ref (I + 1)) (I + 2)) s₃ := by
    rintro s₃ ⟨tk₀, rfl⟩
    obtain ⟨Iv, hIv⟩ : ∃ Iv : Nat → Shared → Prop, Iv = (fun n s' => ∃ h tk i ys m' oI oC nw, s' = { s₂ with heap := h, toks := tk } ∧ i ≤ its.size ∧ n = its.size + 1 - i ∧ h.IsListIter I ax i ∧ Fr h₀ L h m ∧ News h₀ L h ((I, oI) :: (I + 2, oC) :: (I + 1, LCg.lst ys) :: nw) ∧ LCg.NsObj oC m' ∧ (∀ p ∈ nw, p.1 ≠ I ∧ p.1 ≠ I + 2 ∧ p.1 ≠ I + 1) ∧ J i ys nw) := ⟨_, rfl⟩
    refine comp3_loop Iv ?_ (its.size + 1) ?_
    rotate_left
    · rw [hIv]
      refine ⟨h₁, _, 0, [], _, { cls := .type "list_iterator", data := .fields #[.ref ax, .int 0 0] }, oC0, news, rfl, Nat.zero_le _, rfl, ⟨_, gI, rfl, rfl⟩, F.keeps old, ?_, hoC0, fun p hp => ⟨nN I (Nat.le_refl _) p hp, nN (I + 2) (Nat.le_add_right _ _) p hp, nN (I + 1) (Nat.le_succ _) p hp⟩, h0⟩
      exact List.forall_mem_cons.mpr ⟨⟨gI, Ne.symm (nL I (Nat.le_refl _)), fresh₀ I (Nat.le_refl _)⟩, List.forall_mem_cons.mpr ⟨⟨gC, Ne.symm (nL (I + 2) (Nat.le_add_right _ _)), fresh₀ (I + 2) (Nat.le_add_right _ _)⟩, List.forall_mem_cons.mpr ⟨⟨gD, Ne.symm (nL (I + 1) (Nat.le_succ _)), fresh₀ (I + 1) (Nat.le_succ _)⟩, N.grown old⟩⟩⟩
    · intro n s' hI0
      (with_reducible show wpAny _ _ _ _ _ _); k_fold
      rw [hIv] at hI0
      obtain ⟨h, tk, i, ys, m', oI, oC, nw, rfl, hi, rfl, hit, F', N', hoC, hoff, hJ⟩ := hI0
      have N3 := N'
      simp only [News, List.forall_mem_cons] at N3
      obtain ⟨eI, eC, eD, eN⟩ := N3
      obtain ⟨hyl, hS⟩ := hlen _ _ _ hJ
      have hsrc : h.IsList ax its := hS.list F'.keep eN
      by_cases hil : i < its.size
      · refine W.item i _ _ _ hil ⟨hit, hsrc⟩ fun v h₂ tk₂ hPv hst₂ hk₂ => ?_
        have hk₂' : ∀ b o, b ≠ I → h.get? b = some o → h₂.get? b = some o := fun b o hb e => hk₂ b o (by simpa using hb) e
        obtain ⟨t, ot, v₁, v₂, v₃, nt, rfl, hmt, hct, hdt, T'⟩ := turn i v ys nw hPv hJ
        have gt : h₂.get? t = some ot := hk₂' _ _ (hoff _ hmt).1 (eN _ hmt).1
        have ht : IsTup h₂ t #[v₁, v₂, v₃] := ⟨ot, gt, hct, nt, hdt⟩
        dsimp only
        refine wpAny_letOwnedTupleGo_listiter hst₂.1 ?_
        refine assign_Tuple_tuple hh ht rfl rfl fun h₅ he => ?_
        have he' : ∀ b o, h₂.get? b = some o → h₅.get? b = some o := fun b o e => he b o (Nat.ne_of_lt (Heap.lt_size e)) e
        have nsC : h₅.Ns (I + 2) m' := (hoC.ns eC.1).at' fun o e => he' _ _ (hk₂' _ o (Ne.symm hIC) e)
        refine assignInOrder_cons (wpAny_assign_Name (wpAny_storeName_local (lookup_relabel_local hx) nsC (fun h₆ hn₆ hs₆ => ?_) (by simp [compEnvC, relabel, hkind])))
        refine assignInOrder_cons (wpAny_assign_Name (wpAny_storeName_local (lookup_relabel_local hy) hn₆ (fun h₇ hn₇ hs₇ => ?_) (by simp [compEnvC, relabel, hkind])))
        refine assignInOrder_cons (wpAny_assign_Name (wpAny_storeName_local (lookup_relabel_local hz) hn₇ (fun h₃ hn₃ hs₃ => ?_) (by simp [compEnvC, relabel, hkind])))
        refine assignInOrder_nil ?_
        have hk₃ : ∀ b o, b ≠ I + 2 → h₂.get? b = some o → h₃.get? b = some o := fun b o hb e => hs₃.extBut b o hb (hs₇.extBut b o hb (hs₆.extBut b o hb (he' b o e)))
        obtain ⟨oI2, gI2, rI2⟩ := hst₂.1
        obtain ⟨oC3, gC3, hoC3⟩ := LCg.ns_obj hn₃
        have F₃ := fr_chg (fr_chg F' hk₂' (nL I (Nat.le_refl _)) (fresh₀ I (Nat.le_refl _))) hk₃ (nL (I + 2) (Nat.le_add_right _ _)) (fresh₀ (I + 2) (Nat.le_add_right _ _))
        have eN₃ : News h₀ L h₃ nw := news_chg (news_chg eN hk₂' fun p hp => (hoff p hp).1) hk₃ fun p hp => (hoff p hp).2.1
        have N₃ : News h₀ L h₃ ((I, oI2) :: (I + 2, oC3) :: (I + 1, LCg.lst ys) :: nw) :=
          List.forall_mem_cons.mpr ⟨⟨hk₃ _ _ hIC gI2, Ne.symm (nL I (Nat.le_refl _)), fresh₀ I (Nat.le_refl _)⟩, List.forall_mem_cons.mpr ⟨⟨gC3, Ne.symm (nL (I + 2) (Nat.le_add_right _ _)), fresh₀ (I + 2) (Nat.le_add_right _ _)⟩, List.forall_mem_cons.mpr ⟨⟨hk₃ _ _ hDC (hk₂' _ _ (Ne.symm hID) eD.1), eD.2⟩, eN₃⟩⟩⟩
        refine (T' I oI2 (I + 2) oC3 (I + 1) _ h₃ _ hoC3 (by simp [hxy, hxz]) (by simp [hyz]) (by simp) F₃ N₃ hoff ⟨hIC, hID, Ne.symm hDC⟩).mono fun o s9 h9 => ?_
        obtain ⟨g9, tk9, nw9, rfl, F9, N9, off9, hJ9⟩ := h9
        have N9b := N9
        simp only [News, List.forall_mem_cons] at N9b
        obtain ⟨qI, qC, qD, qN⟩ := N9b
        cases o with
        | none => exact ⟨its.size + 1 - (i + 1), by omega, by rw [hIv]; exact ⟨g9, tk9, i + 1, ys, _, oI2, oC3, nw9, rfl, hil, rfl, ⟨oI2, qI.1, rI2⟩, F9, N9, hoC3, off9, hJ9⟩⟩
        | some yv =>
          refine append_at (hsz := by rw [PySem.sizeLine_eq, List.size_toArray]; omega) qD.1 fun g10 hs10 hD10 => ?_
          have hk10 : ∀ b o, b ≠ I + 1 → g9.get? b = some o → g10.get? b = some o := fun b o hb e => hs10.extBut b o hb e
          refine ⟨its.size + 1 - (i + 1), by omega, ?_⟩
          rw [hIv]
          refine ⟨g10, tk9, i + 1, ys ++ [yv], _, oI2, oC3, nw9, rfl, hil, rfl, ⟨oI2, hk10 _ _ hID qI.1, rI2⟩, fr_chg F9 hk10 (nL (I + 1) (Nat.le_succ _)) (fresh₀ (I + 1) (Nat.le_succ _)), ?_, hoC3, off9, hJ9⟩
          exact List.forall_mem_cons.mpr ⟨⟨hk10 _ _ hID qI.1, qI.2⟩, List.forall_mem_cons.mpr ⟨⟨hk10 _ _ (Ne.symm hDC) qC.1, qC.2⟩, List.forall_mem_cons.mpr ⟨⟨hD10.trans (congrArg some (LCg.lst_snoc ys yv)), qD.2⟩, news_chg qN hk10 fun p hp => (off9 p hp).2.2⟩⟩⟩
      · obtain rfl : i = its.size := Nat.le_antisymm hi (Nat.not_lt.mp hil)
        refine W.done _ _ _ ⟨hit, hsrc⟩ fun h₂ tk₂ hk₂ => ?_
        have hk₂' : ∀ b o, b ≠ I → h.get? b = some o → h₂.get? b = some o := fun b o hb e => hk₂ b o (by simpa using hb) e
        have F₂ := fr_chg F' hk₂' (nL I (Nat.le_refl _)) (fresh₀ I (Nat.le_refl _))
        have eN₂ := news_chg eN hk₂' fun p hp => (hoff p hp).1
        exact hRR (I + 1) (I + 2) h₂ tk₂ m' ys nw F₂ (List.forall_mem_cons.mpr ⟨⟨hk₂' _ _ (Ne.symm hID) eD.1, eD.2⟩, eN₂⟩) (fun p hp => (hoff p hp).2.2) ((hoC.ns eC.1).at' fun o e => hk₂' _ o (Ne.symm hIC) e) (fresh₀ (I + 2) (Nat.le_add_right _ _)) (fresh₀ (I + 1) (Nat.le_succ _)) (Ne.symm (nL (I + 2) (Nat.le_add_right _ _))) (Ne.symm (nL (I + 1) (Nat.le_succ _))) (Ne.symm hDC) (fun p hp => (hoff p hp).2.1) hJ
  exact codeAny_compStart_list (keyloop _ ⟨_, rfl⟩) (W.self 0 _ _ _ ⟨⟨_, gI, rfl, rfl⟩, hl.at fun o e => old _ o e⟩ (keyloop _ ⟨_, rfl⟩))
theorem ListComp_3 {elt iter : Expr} {ifs : List Expr} {x y z : Str} {px py pz tp : Pos} {kk} {scope : Scope} {cl : List (Str × Addr)} {pos : Pos} {s : Shared} {Q : Value → Shared → Prop} (_F₀ : Fr h₀ L s.heap m)
    (hclos : closureFor scope env = pure cl) (hkind : scope.kind = .function) (hnames : ∀ z ∈ scope.names, z.2 = .local → scope.names.lookup z.1 = some .local)
    (hs : ∀ x, foldedSetIterable iter env x = pure x)
    (h : wpAny (model prog w) A (eval iter env) (fun xv s₁ => Brk (∃ (ax : Addr) (Pp : List Value → List (Addr × Obj) → Prop), xv = .ref ax ∧
      (∀ RR : Value → Addr → Result → Shared → Prop, (∀ D C h tk m' ys nw, Fr h₀ L h m → News h₀ L h ((D, LCg.lst ys) :: nw) → (∀ p ∈ nw, p.1 ≠ D) → h.Ns C m' → h₀.get? C = none → h₀.get? D = none → C ≠ L → D ≠ L → C ≠ D → (∀ p ∈ nw, p.1 ≠ C) → Pp ys nw → RR (.ref D) C (.ok .next) { s₁ with heap := h, toks := tk }) →
        wpAny (model prog w) A (pyIter (.ref ax)) (fun it s₂' => wpAny (model prog w) A (newList []) (fun acc s₃ => wpAny (model prog w) A (newFunctionEnv scope env.globals cl [] env.qual none .none (some env)) (fun cenv s₄ =>
          codeAny (model prog w) A (.compStart (.ListComp elt [⟨.Tuple [.Name x px, .Name y py, .Name z pz] kk tp, iter, ifs, 0⟩] scope pos) 0 it acc { cenv with scope := relabel scope env }) (RR acc cenv.locals) s₄) E s₃) E s₂') E s₁) ∧
      (∀ D h tk ys nw, Fr h₀ L h m → News h₀ L h ((D, LCg.lst ys) :: nw) → (∀ p ∈ nw, p.1 ≠ D) → Pp ys nw → Q (.ref D) { s₁ with heap := h, toks := tk }))) E s) :
    wpAny (model prog w) A (eval (.ListComp elt [⟨.Tuple [.Name x px, .Name y py, .Name z pz] kk tp, iter, ifs, 0⟩] scope pos) env) Q E s := by
  rw [eval_ListComp]
  refine wpAny_comprehension_free (use := none) rfl hs hclos hkind hnames (wpAny_mono h (fun xv s₁ h₁ => ?_) fun _ _ e => e)
  obtain ⟨ax, Pp, rfl, hrun, hfin⟩ := h₁
  refine hrun _ ?_
  intro D C h' tk m' ys nw F' N' o1 hn hC₀ hD₀ hCL hDL hCD offC fin
  refine ⟨m', hn, fun h'' hs'' => hfin D h'' tk ys nw (F'.change hs'' hCL hC₀) (fun p hp => ⟨hs''.extBut _ _ ?_ (N' p hp).1, (N' p hp).2⟩) o1 fin⟩
  rcases List.mem_cons.mp hp with rfl | hp
  · exact Ne.symm hCD
  · exact offC p hp
theorem ListComp_brk {elt iter : Expr} {ifs elts : List Expr} {tp : Pos} {kk} {scope : Scope} {pos : Pos} {s : Shared} {Q : Value → Shared → Prop} (h : Brk (wpAny (model prog w) A (eval (.ListComp elt [⟨.Tuple elts kk tp, iter, ifs, 0⟩] scope pos) env) Q E s)) :
    wpAny (model prog w) A (eval (.ListComp elt [⟨.Tuple elts kk tp, iter, ifs, 0⟩] scope pos) env) Q E s := h
end
section
open PySem.SeqAt
/-- a list of pairs, as data -/
noncomputable def pairD (r : Int × Int) : PyData := .tuple [.int r.1, .int r.2]
theorem reads_pair {h : Heap} {T : Addr} {r : Int × Int} {t1 t2 : Tok} (e : h.get? T = some (pairObj r t1 t2)) : Reads h (.ref T) (pairD r) [] := by
  have h1 : ReadsAll h [Value.int r.1 t1, Value.int r.2 t2] [PyData.int r.1, PyData.int r.2] [] := ReadsAll.cons (Reads.int (h := h) r.1 t1) (ReadsAll.cons (Reads.int (h := h) r.2 t2) ReadsAll.nil)
  exact Reads.tuple e rfl rfl h1
theorem reads_pairs_all {h : Heap} : ∀ {refs : List Value} {rows : List (Int × Int)}, refs.length = rows.length → (∀ (i : Nat) (r : Int × Int), rows[i]? = some r → ∃ (T : Addr) (t1 t2 : Tok), refs[i]? = some (Value.ref T) ∧ h.get? T = some (pairObj r t1 t2)) → ReadsAll h refs (rows.map pairD) []
  | [], [], _, _ => .nil
  | [], _ :: _, e, _ => nomatch e
  | _ :: _, [], e, _ => nomatch e
  | v :: refs, r :: rows, e, hr => by
    obtain ⟨T, t1, t2, e1, e2⟩ := hr 0 r rfl
    obtain rfl : v = .ref T := Option.some.inj e1
    have := ReadsAll.cons (reads_pair e2) (reads_pairs_all (refs := refs) (rows := rows) (by simpa using e) fun i r' hi => hr (i + 1) r' hi)
    simpa using this
theorem canLay_pairs : ∀ rows : List (Int × Int), PyData.canLayAll0 (rows.map pairD) = true
  | [] => by simp [PyData.canLayAll0]
  | r :: rows => by simp [PyData.canLayAll0, PyData.canLay0, pairD, canLay_pairs rows]
theorem depth_pairs : ∀ rows : List (Int × Int), PyData.depthAll (rows.map pairD) ≤ 1
  | [] => by simp [PyData.depthAll]
  | r :: rows => by
    have := depth_pairs rows
    simp only [List.map_cons, PyData.depthAll, PyData.depth, pairD]
    omega
theorem shaped_pairs (rows : List (Int × Int)) : shaped (.list (rows.map pairD)) = true := by
  have h1 := depth_pairs rows
  have h2 : PyData.depth (.list (rows.map pairD)) ≤ 64 := by simp only [PyData.depth]; omega
  show (PyData.canLay0 (.list (rows.map pairD)) && decide (PyData.depth (.list (rows.map pairD)) ≤ 64)) = true
  rw [Bool.and_eq_true]
  exact ⟨by simp only [PyData.canLay0]; exact canLay_pairs rows, decide_eq_true h2⟩
theorem noMix_pairs : ∀ a b : List (Int × Int), noMixAll (a.map pairD) (b.map pairD) = true
  | [], [] => by simp [noMixAll]
  | [], _ :: _ => by simp [noMixAll]
  | _ :: _, [] => by simp [noMixAll]
  | _ :: r, _ :: q => by simp [noMixAll, noMix, pairD, noMix_pairs r q]
theorem same_pairs : ∀ a : List (Int × Int), PySem.Spec.sameAll (a.map pairD) (a.map pairD) = true
  | [] => by simp [PySem.Spec.sameAll]
  | r :: rows => by simp [PySem.Spec.sameAll, PySem.Spec.same, pairD, same_pairs rows]
theorem ne_pairs {prog : Program} {w : World} {A : Around} {E : Value → Shared → Prop} {s : Shared} {a b : Addr} {refs refs2 : List Value} {rows : List (Int × Int)} {Q : Value → Shared → Prop} (hl : s.heap.IsList a refs.toArray) (hl2 : s.heap.IsList b refs2.toArray)
    (n1 : refs.length = rows.length) (n2 : refs2.length = rows.length) (h1 : ∀ (i : Nat) (r : Int × Int), rows[i]? = some r → ∃ (T : Addr) (t1 t2 : Tok), refs[i]? = some (Value.ref T) ∧ s.heap.get? T = some (pairObj r t1 t2))
    (h2 : ∀ (i : Nat) (r : Int × Int), rows[i]? = some r → ∃ (T : Addr) (t1 t2 : Tok), refs2[i]? = some (Value.ref T) ∧ s.heap.get? T = some (pairObj r t1 t2)) (hu : A.units + 64 < cLine)
    (hq : Q (.bool false) s) : wpAny (model prog w) A (compareOp .NotEq (.ref a) (.ref b)) Q E s := by
  obtain ⟨o, ho, hc, n, hd⟩ := hl
  obtain ⟨o', ho', hc', n', hd'⟩ := hl2
  have ra : Reads s.heap (.ref a) (.list (rows.map pairD)) [a] := Reads.list ho hc hd (reads_pairs_all n1 h1)
  have rb : Reads s.heap (.ref b) (.list (rows.map pairD)) [b] := Reads.list ho' hc' hd' (reads_pairs_all n2 h2)
  refine ne_dataH_same ra rb (shaped_pairs rows) (shaped_pairs rows) hu (by simp only [noMix]; exact noMix_pairs rows rows) ?_
  simp only [PySem.Spec.same]; rw [same_pairs]; exact hq
end
/-- the rows' tuples, as a ledger -/
theorem rows_ledger {h₀ h : Heap} {D : Addr} {rows : List (Int × Int × Int)} (R : RowsAt h₀ h D rows) : ∃ refs e tups, h.get? D = some (PySem.W.listOf refs.toArray e) ∧ h₀.get? D = none ∧ RowsIn tups refs rows ∧ ∀ p ∈ tups, h.get? p.1 = some p.2 ∧ h₀.get? p.1 = none := by
  obtain ⟨refs, e, h1, h2, h3, h4⟩ := R
  suffices H : ∀ n, n ≤ rows.length → ∃ tups : List (Addr × Obj), (∀ p ∈ tups, h.get? p.1 = some p.2 ∧ h₀.get? p.1 = none) ∧ ∀ (i : Nat) (r : Int × Int × Int), i < n → rows[i]? = some r → ∃ (T : Addr) (t1 t2 t3 : Tok), refs[i]? = some (Value.ref T) ∧ (T, rowObj r t1 t2 t3) ∈ tups by
    obtain ⟨tups, k1, k2⟩ := H rows.length (Nat.le_refl _)
    refine ⟨refs, e, tups, h1, h2, ⟨h3, fun i r hi => k2 i r ?_ hi⟩, k1⟩
    rcases Nat.lt_or_ge i rows.length with hlt | hge
    · exact hlt
    · rw [List.getElem?_eq_none hge] at hi; cases hi
  intro n
  induction n with
  | zero => exact fun _ => ⟨[], fun _ hp => (nomatch hp), fun i r hi => absurd hi (Nat.not_lt_zero _)⟩
  | succ n ih =>
    intro hn
    obtain ⟨tups, k1, k2⟩ := ih (by omega)
    obtain ⟨r, hr⟩ : ∃ r, rows[n]? = some r := ⟨_, List.getElem?_eq_getElem (by omega)⟩
    obtain ⟨T, t1, t2, t3, a, b, c⟩ := h4 n r hr
    refine ⟨(T, rowObj r t1 t2 t3) :: tups, List.forall_mem_cons.mpr ⟨⟨b, c⟩, k1⟩, fun i r' hi hr' => ?_⟩
    by_cases hin : i = n
    · subst hin
      rw [hr] at hr'
      cases hr'
      exact ⟨T, t1, t2, t3, a, List.mem_cons_self ..⟩
    · obtain ⟨T', u1, u2, u3, x1, x2⟩ := k2 i r' (by omega) hr'
      exact ⟨T', u1, u2, u3, x1, List.mem_cons_of_mem _ x2⟩
end
section
theorem ints_all : ∀ {l : List Value}, (∀ v ∈ l, ∃ k t, v = Value.int k t) → ∃ ns, IntsAre l ns
  | [], _ => ⟨[], .nil⟩
  | v :: l, h => by
    obtain ⟨ns, hn⟩ := ints_all (l := l) fun v hv => h v (List.mem_cons_of_mem _ hv)
    obtain ⟨k, t, rfl⟩ := h v (List.mem_cons_self ..)
    exact ⟨k :: ns, .cons k t hn⟩
theorem pick_ints {vs : List Value} {ns : List Int} (hI : IntsAre vs ns) {lo hi st : Option Int} : ∃ k, IntsAre (slicePick vs.toArray lo hi st).toList k := by
  refine ints_all fun v hv => ?_
  unfold slicePick at hv
  rw [List.toList_toArray] at hv
  obtain ⟨i, _, e⟩ := List.mem_filterMap.mp hv
  obtain ⟨k, t, _, rfl⟩ := ints_at hI (i := i) (v := v) (by simpa using e)
  exact ⟨k, t, rfl⟩
theorem fr_meq {h₀ h : Heap} {L : Addr} {m : Str → Option Value} (_F : Fr h₀ L h m) (l : List (Str × Option Value)) (e : ∀ z, m z = mapOf l z) : m = mapOf l := funext e
theorem bit_one {r p : Nat} : Builtin.bitAnd ((r : Int).fdiv (2 ^ p)) 1 = 1 ↔ r.testBit p = true := by
  rw [bitAnd_m1, ← kbt_cast, Int.fdiv_eq_ediv_of_nonneg _ (Int.natCast_nonneg _), ← Int.natCast_ediv, Nat.testBit_eq_decide_div_mod_eq]
  simp only [decide_eq_true_eq]
  omega
theorem new_ne {h₀ h : Heap} {L D : Addr} {news : List (Addr × Obj)} (N : News h₀ L h news) (hD : h.get? D = none) : ∀ p ∈ news, p.1 ≠ D := fun p hp e => by
  have := (N p hp).1
  rw [e, hD] at this; cases this
noncomputable def freeTo (fl n : Nat) : List Int := ((List.range n).filter fun p => !fl.testBit p).map Int.ofNat
theorem freeTo_yes {fl n : Nat} (h : fl.testBit n = false) : freeTo fl (n + 1) = freeTo fl n ++ [(n : Int)] := by
  unfold freeTo
  rw [List.range_succ, List.filter_append, List.map_append]
  have : List.filter (fun p => !fl.testBit p) [n] = [n] := List.filter_cons_of_pos (by rw [h]; rfl)
  rw [this]; rfl
theorem freeTo_no {fl n : Nat} (h : fl.testBit n = true) : freeTo fl (n + 1) = freeTo fl n := by
  unfold freeTo
  rw [List.range_succ, List.filter_append, List.map_append]
  have : List.filter (fun p => !fl.testBit p) [n] = [] := List.filter_cons_of_neg (by rw [h]; exact Bool.false_ne_true)
  rw [this]; simp
theorem mem_bitsTo {fl i : Nat} (hf : fl < 2 ^ 14) : (i : Int) ∈ bitsTo fl 14 ↔ fl.testBit i = true := by
  unfold bitsTo
  rw [List.mem_map]
  constructor
  · rintro ⟨p, hp, e⟩
    have : p = i := by have : (p : Int) = i := e; omega
    subst this
    exact (List.mem_filter.mp hp).2
  · intro h
    have hi : i < 14 := by
      rcases Nat.lt_or_ge i 14 with h1 | h1
      · exact h1
      · rw [Nat.testBit_lt_two_pow (Nat.lt_of_lt_of_le hf (Nat.pow_le_pow_right (by decide) h1))] at h; cases h
    exact ⟨i, List.mem_filter.mpr ⟨List.mem_range.mpr hi, h⟩, rfl⟩
noncomputable def lowOf (r : Nat) : Nat := ((List.range 15).find? fun p => !r.testBit p).getD 14
theorem mem_freeTo {r i n : Nat} : (i : Int) ∈ freeTo r n ↔ i < n ∧ r.testBit i = false := by
  unfold freeTo
  rw [List.mem_map]
  constructor
  · rintro ⟨p, hp, e⟩
    have : p = i := by have : (p : Int) = i := e; omega
    subst this
    have h2 := List.mem_filter.mp hp
    exact ⟨List.mem_range.mp h2.1, by simpa using h2.2⟩
  · intro ⟨h1, h2⟩
    exact ⟨i, List.mem_filter.mpr ⟨List.mem_range.mpr h1, by rw [h2]; rfl⟩, rfl⟩
theorem free14 {r : Nat} (hr : r < 2 ^ 14) : ((14 : Nat) : Int) ∈ freeTo r 15 := mem_freeTo.mpr ⟨by decide, Nat.testBit_lt_two_pow hr⟩
theorem low_eq {r : Nat} {M : Int} (h1 : M ∈ freeTo r 15) (h2 : ∀ a, a ∈ freeTo r 15 → M ≤ a) : M = (lowOf r : Int) := by
  obtain ⟨p, hp, rfl⟩ := List.mem_map.mp h1
  have hp' := mem_freeTo.mp h1
  unfold lowOf
  cases hf : (List.range 15).find? fun p => !r.testBit p with
  | none =>
    have := List.find?_eq_none.mp hf p (List.mem_range.mpr hp'.1)
    rw [hp'.2] at this
    exact absurd rfl this
  | some q =>
    obtain ⟨hq1, hq2, hq3⟩ := List.find?_range_eq_some.mp hf
    have hq4 : (q : Int) ∈ freeTo r 15 := mem_freeTo.mpr ⟨List.mem_range.mp hq2, by simpa using hq1⟩
    have h5 := h2 _ hq4
    have h6 : ¬ p < q := fun hlt => by
      have := hq3 p hlt
      rw [hp'.2] at this
      simp at this
    show (p : Int) = ((some q).getD 14 : Nat)
    have : (p : Int) ≤ q := h5
    simp only [Option.getD_some]
    omega
theorem low_lt (r : Nat) : lowOf r < 15 := by
  unfold lowOf
  cases hf : (List.range 15).find? fun p => !r.testBit p with
  | none => decide
  | some q => exact List.mem_range.mp (List.find?_range_eq_some.mp hf).2.1
noncomputable def beadsL (ns : List Int) (low : Int) : List Int := (ns.filter fun x => decide (x > low)).map fun x => x - low
theorem beadsL_yes {ns : List Int} {low x : Int} (h : x > low) : beadsL (ns ++ [x]) low = beadsL ns low ++ [x - low] := by
  unfold beadsL
  rw [List.filter_append, List.map_append]
  have : List.filter (fun x => decide (x > low)) [x] = [x] := List.filter_cons_of_pos (decide_eq_true h)
  rw [this]; rfl
theorem beadsL_no {ns : List Int} {low x : Int} (h : ¬ x > low) : beadsL (ns ++ [x]) low = beadsL ns low := by
  unfold beadsL
  rw [List.filter_append, List.map_append]
  have : List.filter (fun x => decide (x > low)) [x] = [] := List.filter_cons_of_neg (by rw [decide_eq_false h]; exact Bool.false_ne_true)
  rw [this]; simp
theorem take_snoc {l : List Int} {i : Nat} {x : Int} (h : l[i]? = some x) : l.take (i + 1) = l.take i ++ [x] := by
  rw [List.take_add_one, h]; rfl
noncomputable def beadsOf (r : Nat) : List Int := beadsL (bitsTo r 14) (lowOf r : Int)
noncomputable def hookIn (bs : List Int) (b : Int) (j : Nat) : List Int := ((List.range j).filter fun (p : Nat) => !(bs.any fun x => x == (p : Int))).map fun (p : Nat) => b - (p : Int)
noncomputable def hooksTo (bs : List Int) (i j : Nat) : List Int := ((bs.take i).flatMap fun b => hookIn bs b b.toNat) ++ hookIn bs (bs.getD i 0) j
noncomputable def hooksL (bs : List Int) : List Int := bs.flatMap fun b => hookIn bs b b.toNat
theorem hookIn_yes {bs : List Int} {b : Int} {j : Nat} (h : (bs.any fun x => x == (j : Int)) = false) : hookIn bs b (j + 1) = hookIn bs b j ++ [b - (j : Int)] := by
  unfold hookIn
  rw [List.range_succ, List.filter_append, List.map_append]
  have : List.filter (fun p : Nat => !(bs.any fun x => x == (p : Int))) [j] = [j] := List.filter_cons_of_pos (by rw [h]; rfl)
  rw [this]; rfl
theorem hookIn_no {bs : List Int} {b : Int} {j : Nat} (h : (bs.any fun x => x == (j : Int)) = true) : hookIn bs b (j + 1) = hookIn bs b j := by
  unfold hookIn
  rw [List.range_succ, List.filter_append, List.map_append]
  have : List.filter (fun p : Nat => !(bs.any fun x => x == (p : Int))) [j] = [] := List.filter_cons_of_neg (by rw [h]; exact Bool.false_ne_true)
  rw [this]; simp
theorem hookIn_len (bs : List Int) (b : Int) (j : Nat) : (hookIn bs b j).length ≤ j := by
  unfold hookIn
  rw [List.length_map]
  exact Nat.le_trans (List.length_filter_le _ _) (by rw [List.length_range]; exact Nat.le_refl _)
theorem hooksTo_yes {bs : List Int} {i j : Nat} (h : (bs.any fun x => x == (j : Int)) = false) : hooksTo bs i (j + 1) = hooksTo bs i j ++ [bs.getD i 0 - (j : Int)] := by
  unfold hooksTo; rw [hookIn_yes h, List.append_assoc]
theorem hooksTo_no {bs : List Int} {i j : Nat} (h : (bs.any fun x => x == (j : Int)) = true) : hooksTo bs i (j + 1) = hooksTo bs i j := by
  unfold hooksTo; rw [hookIn_no h]
theorem hooksTo_next {bs : List Int} {i : Nat} (hi : i < bs.length) : hooksTo bs i ((bs.getD i 0).toNat) = hooksTo bs (i + 1) 0 := by
  unfold hooksTo
  have e : bs[i]? = some (bs.getD i 0) := by rw [List.getD_eq_getElem?_getD, List.getElem?_eq_getElem hi]; rfl
  rw [take_snoc e, List.flatMap_append]
  simp [hookIn]
theorem hooksTo_end {bs : List Int} : hooksTo bs bs.length 0 = hooksL bs := by
  unfold hooksTo hooksL
  rw [List.take_length]
  simp [hookIn]
theorem flat_len {bs l : List Int} (h : ∀ b ∈ l, b.toNat ≤ 15) : (l.flatMap fun b => hookIn bs b b.toNat).length ≤ 15 * l.length := by
  induction l with
  | nil => simp
  | cons b l ih =>
    rw [List.flatMap_cons, List.length_append, List.length_cons]
    have h1 := ih fun x hx => h x (List.mem_cons_of_mem _ hx)
    have h2 := h b (List.mem_cons_self ..)
    have h3 := hookIn_len bs b b.toNat
    omega
theorem beadsOf_mem {r : Nat} : ∀ x ∈ beadsOf r, 0 < x ∧ x < 14 := by
  intro x hx
  unfold beadsOf beadsL at hx
  obtain ⟨y, hy, rfl⟩ := List.mem_map.mp hx
  have h1 := List.mem_filter.mp hy
  have h2 := bitsTo_mem y h1.1
  have h3 : y > (lowOf r : Int) := of_decide_eq_true h1.2
  omega
theorem beadsOf_len (r : Nat) : (beadsOf r).length ≤ 14 := by
  unfold beadsOf beadsL
  rw [List.length_map]
  exact Nat.le_trans (List.length_filter_le _ _) (bitsTo_len r 14)
theorem getD_mem {bs : List Int} {i : Nat} (hi : i < bs.length) : bs.getD i 0 ∈ bs := by
  rw [List.getD_eq_getElem?_getD, List.getElem?_eq_getElem hi]; exact List.getElem_mem hi
theorem getD_of {bs : List Int} {i : Nat} {x : Int} (h : bs[i]? = some x) : bs.getD i 0 = x := by
  rw [List.getD_eq_getElem?_getD, h]; rfl
theorem getD_bd {r i : Nat} (hi : i < (beadsOf r).length) : 0 < (beadsOf r).getD i 0 ∧ (beadsOf r).getD i 0 < 14 := beadsOf_mem _ (getD_mem hi)
theorem hooksTo_len {r i j : Nat} (hj : j ≤ 15) : (hooksTo (beadsOf r) i j).length ≤ 300 := by
  unfold hooksTo
  rw [List.length_append]
  have h1 := hookIn_len (beadsOf r) ((beadsOf r).getD i 0) j
  have h2 := flat_len (bs := beadsOf r) (l := (beadsOf r).take i) (fun b hb => by have := beadsOf_mem b (List.mem_of_mem_take hb); omega)
  have h3 : ((beadsOf r).take i).length ≤ 14 := Nat.le_trans (List.length_take_le' ..) (beadsOf_len r)
  omega
end
section
noncomputable def topOf (hk : List Int) : Int := (hk ++ [0]).foldl max 0
noncomputable def lawA (bs : List Int) : Bool := decide ((hooksL bs).length < 64) && decide (0 ≤ topOf (hooksL bs) ∧ topOf (hooksL bs) ≤ 15) && (hooksL bs ++ [0]).all (fun a => decide (a ≤ topOf (hooksL bs))) && (hooksL bs ++ [0]).elem (topOf (hooksL bs))
noncomputable def lawR (st : Nat) (bs : List Int) : Bool := decide ((rowsOf (hooksL bs)).map (fun r => (r.1, r.2.1 - r.2.2)) = dueTo bs (topOf (hooksL bs)).toNat) && (rowsOf (hooksL bs)).all (fun r => !decide (r.1.fmod st ≤ r.1.fdiv st))
noncomputable def textOf (st : Nat) (bs : List Int) : List Nat := nestT (bs.map fun k => k.fmod (st : Int)) st
noncomputable def lawN (st : Nat) (bs : List Int) : Bool := (textOf st bs).all (fun c => c == 40 || c == 41) && decide ((textOf st bs).length ≤ 500) && runB (textOf st bs) 0 && (toldL (frontsOf (textOf st bs)) st).isPerm bs
/-- the beads that both steps leave alone, as numbers -/
noncomputable def coreOk (st n m : Nat) : Bool := n != 0 && (decide (n < st) || m.testBit (n - st)) && (decide (n < st + 1) || m.testBit (n - (st + 1)))
noncomputable def cores (st : Nat) : Nat → List Nat
  | 0 => [0]
  | n + 1 => cores st n ++ ((cores st n).filter (coreOk st n)).map (2 ^ n + ·)
theorem cores_mem {st : Nat} (hst : 0 < st) : ∀ (n m : Nat), m < 2 ^ n → (∀ p, p < n → m.testBit p = true → coreOk st p m = true) → m ∈ cores st n
  | 0, m, h, _ => by
    have : m = 0 := by simpa using h
    subst this; exact List.mem_singleton.mpr rfl
  | n + 1, m, h, hS => by
    unfold cores
    cases hb : m.testBit n with
    | true =>
      obtain ⟨h1, h2, h3⟩ := sub2 hb
      have hp : 2 ^ (n + 1) = 2 ^ n + 2 ^ n := by rw [Nat.pow_succ]; omega
      have h4 : m - 2 ^ n < 2 ^ n := by omega
      have low : ∀ p, p < n → (m - 2 ^ n).testBit p = m.testBit p := fun p hp => by
        rw [h3, decide_eq_false (by omega : ¬ p = n)]; rfl
      have same : ∀ p, p ≤ n → coreOk st p (m - 2 ^ n) = coreOk st p m := fun p hp => by
        unfold coreOk
        by_cases h0 : p = 0
        · subst h0; rfl
        · by_cases hs0 : st = 0
          · exact absurd hs0 (by omega)
          · rw [low (p - st) (by omega), low (p - (st + 1)) (by omega)]
      refine List.mem_append_right _ (List.mem_map.mpr ⟨m - 2 ^ n, List.mem_filter.mpr ⟨cores_mem hst n (m - 2 ^ n) h4 fun p hp hbp => ?_, ?_⟩, by show 2 ^ n + (m - 2 ^ n) = m; omega⟩)
      · rw [same p (by omega)]
        rw [low p hp] at hbp
        exact hS p (by omega) hbp
      · rw [same n (Nat.le_refl _)]
        exact hS n (by omega) hb
    | false =>
      refine List.mem_append_left _ (cores_mem hst n m ?_ fun p hp => hS p (by omega))
      rcases Nat.lt_or_ge m (2 ^ n) with h1 | h1
      · exact h1
      · have hp : 2 ^ (n + 1) = 2 ^ n + 2 ^ n := by rw [Nat.pow_succ]; omega
        have e : m = 2 ^ n + (m - 2 ^ n) := by omega
        have h4 : m - 2 ^ n < 2 ^ n := by omega
        rw [e, Nat.testBit_two_pow_add_eq, Nat.testBit_lt_two_pow h4] at hb
        cases hb
theorem low_free (r : Nat) (hr : r < 2 ^ 14) : r.testBit (lowOf r) = false ∧ ∀ p, p < lowOf r → r.testBit p = true := by
  unfold lowOf
  cases hf : (List.range 15).find? fun p => !r.testBit p with
  | none =>
    have := List.find?_eq_none.mp hf 14 (List.mem_range.mpr (by decide))
    rw [Nat.testBit_lt_two_pow hr] at this
    exact absurd rfl this
  | some q =>
    obtain ⟨hq1, hq2, hq3⟩ := List.find?_range_eq_some.mp hf
    exact ⟨by simpa using hq1, fun p hp => by simpa using hq3 p hp⟩
theorem bitsTo_strict (fl n : Nat) : (bitsTo fl n).Pairwise (· < ·) := by
  unfold bitsTo
  rw [List.pairwise_map]
  refine List.Pairwise.filter _ ?_
  refine (List.pairwise_lt_range (n := n)).imp fun h => ?_
  simp only [Int.ofNat_eq_natCast]; omega
theorem nodup_of_strict {l : List Int} (h : l.Pairwise (· < ·)) : l.Nodup := h.imp fun h => Int.ne_of_lt h
theorem mem_bits {fl n : Nat} {x : Int} : x ∈ bitsTo fl n ↔ ∃ p : Nat, x = p ∧ p < n ∧ fl.testBit p = true := by
  unfold bitsTo
  rw [List.mem_map]
  constructor
  · rintro ⟨p, hp, rfl⟩
    have := List.mem_filter.mp hp
    exact ⟨p, rfl, List.mem_range.mp this.1, this.2⟩
  · rintro ⟨p, rfl, hp, hb⟩
    exact ⟨p, List.mem_filter.mpr ⟨List.mem_range.mpr hp, hb⟩, rfl⟩
theorem beads_bits {r : Nat} (hr : r < 2 ^ 14) : beadsOf r = bitsTo (r / 2 ^ lowOf r) 14 := by
  obtain ⟨hl, _⟩ := low_free r hr
  have hs : (beadsOf r).Pairwise (· < ·) := by
    unfold beadsOf beadsL
    rw [List.pairwise_map]
    exact ((bitsTo_strict r 14).filter _).imp fun h => by omega
  refine List.Perm.eq_of_pairwise (le := (· ≤ ·)) (fun a b _ _ h1 h2 => Int.le_antisymm h1 h2) (hs.imp fun h => Int.le_of_lt h) (bitsTo_sorted _ _) ?_
  refine (List.perm_ext_iff_of_nodup (nodup_of_strict hs) (nodup_of_strict (bitsTo_strict _ _))).mpr fun x => ?_
  rw [mem_bits]
  unfold beadsOf beadsL
  rw [List.mem_map]
  constructor
  · rintro ⟨y, hy, rfl⟩
    have h1 := List.mem_filter.mp hy
    have h2 : y > (lowOf r : Int) := of_decide_eq_true h1.2
    obtain ⟨p, rfl, hp, hb⟩ := mem_bits.mp h1.1
    refine ⟨p - lowOf r, by omega, by omega, ?_⟩
    rw [Nat.testBit_div_two_pow]
    rw [show p - lowOf r + lowOf r = p by omega]; exact hb
  · rintro ⟨p, rfl, hp, hb⟩
    rw [Nat.testBit_div_two_pow] at hb
    have hlt : p + lowOf r < 14 := by
      rcases Nat.lt_or_ge (p + lowOf r) 14 with h | h
      · exact h
      · rw [high_bit hr (by omega)] at hb; cases hb
    have hp0 : p ≠ 0 := fun e => by
      subst e
      rw [Nat.zero_add, hl] at hb; cases hb
    refine ⟨((p + lowOf r : Nat) : Int), List.mem_filter.mpr ⟨mem_bits.mpr ⟨_, rfl, hlt, hb⟩, decide_eq_true (by omega)⟩, by omega⟩
theorem beads_core {st r : Nat} (h0 : 0 < st) (hr : r < 2 ^ 14) (h1 : Stable st r) (h2 : Stable (st + 1) r) : r / 2 ^ lowOf r ∈ cores st 14 := by
  obtain ⟨hl, _⟩ := low_free r hr
  refine cores_mem h0 14 _ (Nat.lt_of_le_of_lt (Nat.div_le_self _ _) hr) fun p hp hb => ?_
  rw [Nat.testBit_div_two_pow] at hb
  have hlt : p + lowOf r < 14 := by
    rcases Nat.lt_or_ge (p + lowOf r) 14 with h | h
    · exact h
    · rw [high_bit hr (by omega)] at hb; cases hb
  have hp0 : p ≠ 0 := fun e => by
    subst e
    rw [Nat.zero_add, hl] at hb; cases hb
  have step : ∀ k, Stable k r → (decide (p < k) || (r / 2 ^ lowOf r).testBit (p - k)) = true := fun k hk => by
    by_cases h : p < k
    · rw [decide_eq_true h]; rfl
    · have := hk _ hlt hb (by omega)
      rw [Nat.testBit_div_two_pow, show p - k + lowOf r = p + lowOf r - k by omega, this, Bool.or_true]
  unfold coreOk
  rw [step st h1, step (st + 1) h2]
  simp [hp0]
theorem all_A : ∀ st ∈ [3, 4, 5], ((cores st 14).all fun m => lawA (bitsTo m 14)) = true := by decide +kernel
theorem all_N3 : ((cores 3 14).all fun m => lawN 3 (bitsTo m 14)) = true := by decide +kernel
theorem all_N4 : ((cores 4 14).all fun m => lawN 4 (bitsTo m 14)) = true := by decide +kernel
theorem all_N5 : ((cores 5 14).all fun m => lawN 5 (bitsTo m 14)) = true := by decide +kernel
theorem all_R3 : ((cores 3 14).all fun m => lawR 3 (bitsTo m 14)) = true := by decide +kernel
theorem all_R4 : ((cores 4 14).all fun m => lawR 4 (bitsTo m 14)) = true := by decide +kernel
theorem all_R5a : (((cores 5 14).take 20).all fun m => lawR 5 (bitsTo m 14)) = true := by decide +kernel
theorem all_R5b : (((cores 5 14).drop 20).take 10 |>.all fun m => lawR 5 (bitsTo m 14)) = true := by decide +kernel
theorem all_R5c : (((cores 5 14).drop 20).drop 10 |>.all fun m => lawR 5 (bitsTo m 14)) = true := by decide +kernel
theorem all_R5 : ((cores 5 14).all fun m => lawR 5 (bitsTo m 14)) = true := by
  rw [← List.take_append_drop 20 (cores 5 14), List.all_append, all_R5a, ← List.take_append_drop 10 (List.drop 20 (cores 5 14)), List.all_append, all_R5b, all_R5c]; rfl
theorem all_laws {st m : Nat} (hs : st = 3 ∨ st = 4 ∨ st = 5) (hm : m ∈ cores st 14) : lawA (bitsTo m 14) = true ∧ lawR st (bitsTo m 14) = true ∧ lawN st (bitsTo m 14) = true := by
  rcases hs with rfl | rfl | rfl
  · exact ⟨List.all_eq_true.mp (all_A 3 (by decide)) m hm, List.all_eq_true.mp all_R3 m hm, List.all_eq_true.mp all_N3 m hm⟩
  · exact ⟨List.all_eq_true.mp (all_A 4 (by decide)) m hm, List.all_eq_true.mp all_R4 m hm, List.all_eq_true.mp all_N4 m hm⟩
  · exact ⟨List.all_eq_true.mp (all_A 5 (by decide)) m hm, List.all_eq_true.mp all_R5 m hm, List.all_eq_true.mp all_N5 m hm⟩
/-- all that the law asks of the beads -/
structure LawOk (st : Nat) (bs : List Int) : Prop where
  few : (hooksL bs).length < 64
  top : ∀ M : Int, M ∈ hooksL bs ++ [0] → (∀ a ∈ hooksL bs ++ [0], a ≤ M) → ∃ n : Nat, M = n ∧ n ≤ 15 ∧ (rowsOf (hooksL bs)).map (fun r => (r.1, r.2.1 - r.2.2)) = dueTo bs n
  rlen : (rowsOf (hooksL bs)).length ≤ 15
  rest : ∀ r ∈ rowsOf (hooksL bs), ¬ (r.1.fmod st ≤ r.1.fdiv st)
  chars : ∀ c ∈ textOf st bs, c = 40 ∨ c = 41
  short : (textOf st bs).length ≤ 500
  takes : runB (textOf st bs) 0 = true
  told : ∀ ns : List Int, ns.Perm (toldL (frontsOf (textOf st bs)) st) → ns.Pairwise (· ≤ ·) → ns = bs
  tlen : (toldL (frontsOf (textOf st bs)) st).length < 64
theorem law_ok {st f1 fl r : Nat} (hs : st = 3 ∨ st = 4 ∨ st = 5) (hf1 : f1 = st ∨ f1 = st + 1) (hr : sinkN (2 * st + 1 - f1) (sinkN f1 fl) = r) : LawOk st (beadsOf r) := by
  subst hr
  obtain ⟨h1, h2⟩ := both_stable (fl := fl) hs hf1
  have hlt : sinkN (2 * st + 1 - f1) (sinkN f1 fl) < 2 ^ 14 := sinkN_lt _ _
  generalize sinkN (2 * st + 1 - f1) (sinkN f1 fl) = r at *
  have k1 : Stable st r ∧ Stable (st + 1) r := by
    rcases hf1 with rfl | rfl
    · exact ⟨h1, by rw [show 2 * f1 + 1 - f1 = f1 + 1 by omega] at h2; exact h2⟩
    · exact ⟨by rw [show 2 * st + 1 - (st + 1) = st by omega] at h2; exact h2, h1⟩
  obtain ⟨a, b, c⟩ := all_laws hs (beads_core (by omega) hlt k1.1 k1.2)
  have hso : (beadsOf r).Pairwise (· ≤ ·) := by rw [beads_bits hlt]; exact bitsTo_sorted _ _
  have hbl : (beadsOf r).length ≤ 14 := beadsOf_len r
  rw [← beads_bits hlt] at a b c
  generalize beadsOf r = bs at *
  unfold lawA at a
  unfold lawR at b
  unfold lawN at c
  simp only [Bool.and_eq_true, decide_eq_true_eq, List.all_eq_true, Bool.not_eq_true', decide_eq_false_iff_not, Bool.or_eq_true, beq_iff_eq, List.elem_eq_mem] at a b c
  obtain ⟨⟨⟨a1, a2⟩, a3⟩, a4⟩ := a
  obtain ⟨b1, b2⟩ := b
  obtain ⟨⟨⟨c1, c2⟩, c3⟩, c4⟩ := c
  have hperm : (toldL (frontsOf (textOf st bs)) st).Perm bs := List.isPerm_iff.mp c4
  have hrl : (rowsOf (hooksL bs)).length ≤ 15 := by
    have h1 := congrArg List.length b1
    rw [List.length_map] at h1
    have h2 := due_len bs (topOf (hooksL bs)).toNat
    omega
  refine ⟨a1, fun M hM hA => ?_, hrl, b2, c1, c2, c3, fun ns hp hs' => (hp.trans hperm).eq_of_pairwise (fun a b _ _ h1 h2 => Int.le_antisymm h1 h2) hs' hso, by rw [hperm.length_eq]; omega⟩
  have hMt : M = topOf (hooksL bs) := Int.le_antisymm (a3 M hM) (hA _ a4)
  subst hMt
  exact ⟨(topOf (hooksL bs)).toNat, by omega, by omega, b1⟩
end
section
set_option maxRecDepth 100000 in
set_option maxHeartbeats 4000000 in
noncomputable def lawP (ps : Params) : { q : List Stmt × Scope // ∃ oc od name qual params dV kV doc pm an cdv ct osl, (hd.heap_1 ps).lookup 174 = some ⟨oc, od, .func (fnOf name qual params q.1 q.2 dV kV doc pm an cdv ct), osl⟩ } := by
  have e : PySem.Challenge.rw_rw0080_01 = PySem.Challenge.rw_rw0080_01 := rfl
  revert e; k_fill; intro _
  exact ⟨(_, _), _, _, _, _, _, _, _, _, _, _, _, _, _, by k_is⟩
noncomputable def lawCode (ps : Params) : List Stmt := (lawP ps).1.1
noncomputable def lawScope (ps : Params) : Scope := (lawP ps).1.2
noncomputable def LawAt (w : World) (A : Around) (s : Shared) (Q : Value → Shared → Prop) (L : Addr) (k : Nat) (h : Heap) (tk : Nat) : Prop :=
  wpAny (model PySem.Challenge.rw_rw0080_01.row.prog w) (A.deeper (envOfC (Str.ofString "law") (lawScope w.params) L 174 (.ref 173))) (execs ((lawCode w.params).drop k) (envOfC (Str.ofString "law") (lawScope w.params) L 174 (.ref 173))) (fun fl s' => Q (match fl with | .ret v => v | _ => .none) s') (fun _ _ => False) { s with heap := h, toks := tk }
noncomputable def Step4 (f : Nat) : Prop := f = 3 ∨ f = 4 ∨ f = 5 ∨ f = 6
theorem Step4.room {f : Nat} (h : Step4 f) : 0 < (f : Int) ∧ (f : Int) < 20 := by rcases h with rfl | rfl | rfl | rfl <;> decide
theorem Step4.room' {f : Nat} (h : Step4 f) : 0 < f ∧ f < 20 := by rcases h with rfl | rfl | rfl | rfl <;> decide
noncomputable def Step3 (f : Nat) : Prop := f = 3 ∨ f = 4 ∨ f = 5
theorem first_step {st f : Nat} (h : Step3 st) (hf : f = st ∨ f = st + 1) : Step4 f := by
  rcases h with rfl | rfl | rfl <;> rcases hf with rfl | rfl <;> unfold Step4 <;> decide
theorem second_step {st f : Nat} (h : Step3 st) (hf : f = st ∨ f = st + 1) : Step4 (2 * st + 1 - f) := by
  rcases h with rfl | rfl | rfl <;> rcases hf with rfl | rfl <;> unfold Step4 <;> decide
theorem Step3.room {f : Nat} (h : Step3 f) : 0 < f ∧ f < 20 := by rcases h with rfl | rfl | rfl <;> decide
theorem Step3.small {f : Nat} (h : Step3 f) : 0 < (f : Int) ∧ (f : Int) < 6 := by rcases h with rfl | rfl | rfl <;> decide
theorem Step3.pos {f : Nat} (h : Step3 f) : 0 < (f : Int) := by rcases h with rfl | rfl | rfl <;> decide
theorem bits_few (r : Nat) : (bitsTo r 14).length < 20 := Nat.lt_of_le_of_lt (bitsTo_len r 14) (by decide)
theorem news_sub {h₀ h : Heap} {L : Addr} {l l' : List (Addr × Obj)} (N : News h₀ L h l) (hs : l'.Sublist l) : News h₀ L h l' := fun p hp => N p (hs.subset hp)
theorem news_more {h₀ h h' : Heap} {L : Addr} {m : Str → Option Value} {l tups : List (Addr × Obj)} (F : Fr h₀ L h m) (N : News h₀ L h' l) (ht : ∀ p ∈ tups, h'.get? p.1 = some p.2 ∧ h.get? p.1 = none) : News h₀ L h' (l ++ tups) := by
  intro p hp
  rcases List.mem_append.mp hp with hp | hp
  · exact N p hp
  · obtain ⟨e1, e2⟩ := ht p hp
    refine ⟨e1, ?_, ?_⟩
    · rintro rfl
      obtain ⟨oL, _, _, hL, _⟩ := F.ns
      rw [e2] at hL; cases hL
    · cases q : h₀.get? p.1 with
      | none => rfl
      | some o' => have := F.keep _ _ q; rw [e2] at this; cases this
end
section
local macro_rules | `(tactic| walk_at "call builtin:sum") => `(tactic| refine Brk.go ?_)
local macro_rules | `(tactic| walk_at "CompSrcT") => `(tactic| refine Brk.go ?_)
local macro_rules | `(tactic| walk_at "CompSrc") => `(tactic| refine Brk.go ?_)
local macro_rules | `(tactic| walk_at "CompEnd") => `(tactic| refine Brk.go ?_)
local macro_rules | `(tactic| walk_at "newTuple") => `(tactic| refine Brk.go ?_)
local macro_rules | `(tactic| walk_at "call builtin:list.append") => `(tactic| refine Brk.go ?_)
local macro_rules | `(tactic| walk_at "eval ListComp") => `(tactic| (refine ListComp_brk ?_))
local macro_rules | `(tactic| walk_at "compareOp NotEq ref ref") => `(tactic| refine Brk.go ?_)
local macro_rules | `(tactic| walk_at "compareOp Eq ref ref") => `(tactic| refine Brk.go ?_)
local macro_rules | `(tactic| walk_at "binaryOp Add ref ref") => `(tactic| refine Brk.go ?_)
local macro_rules | `(tactic| walk_at "call builtin:max") => `(tactic| refine Brk.go ?_)
theorem mem_rot {α : Type} {a b c t : α} {l : List α} : ∀ p ∈ a :: b :: c :: t :: l, p ∈ t :: a :: b :: c :: l := by
  intro p hp
  simp only [List.mem_cons] at hp ⊢
  rcases hp with h | h | h | h | h <;> simp [h]
theorem mem_tail36 {α : Type} {d a b c e f : α} {l k : List α} : ∀ p ∈ d :: a :: b :: c :: e :: f :: (l ++ k), p ∈ d :: (k ++ (a :: b :: c :: e :: f :: l)) := by
  intro p hp
  simp only [List.mem_cons, List.mem_append] at hp ⊢
  rcases hp with h | h | h | h | h | h | h | h <;> simp [h]
theorem mem_deep {α : Type} {a b c d e x : α} {l k : List α} (h : x ∈ k) : x ∈ a :: b :: c :: d :: e :: (l ++ k) := by simp [h]
theorem mem_five {α : Type} {a b c d e x : α} {l : List α} (h : x ∈ l) : x ∈ a :: b :: c :: d :: e :: l := by simp [h]
theorem mem_four {α : Type} {a b c d x : α} {l : List α} (h : x ∈ l) : x ∈ a :: b :: c :: d :: l := by simp [h]
set_option pp.deepTerms false
set_option pp.deepTerms.threshold 6
set_option maxRecDepth 100000 in
set_option maxHeartbeats 4000000 in
theorem tail_spec {w : World} {mean : ExcName → Option Value} {mg mb : Str → Option Value} {dp un : Nat} {fr : Option (List Env)} {gd : Option (List Code)} {s : Shared} {Q : Value → Shared → Prop} {L D30 D33 : Addr} {h33 : Heap} {tk33 : Nat} {v1 v2 v3 v4 v5 v6 v7 : Option Value} {ys2 ys33 : List Value} {oBe oS : Obj} {tS : Tok} {st : Nat} {bs : List Int}
    (X : (hd.heap_1 w.params).In s.heap) (T : Top qv LO mean mg mb s.heap) (hA : dp + 30 < recursionLimit) (hun : un + 100 < cLine) (hgs : ∀ g ∈ s.gens, g.bare = true)
    (hret : ∀ h' tk' gs', Kp s.heap h' → (∀ g ∈ gs', g.bare = true) → Q (.bool true) { s with heap := h', toks := tk', gens := gs' })
    (hst2 : Step3 st) (hlaw : LawOk st bs) (hbm : ∀ x ∈ bs, 0 < x ∧ x < 14) (hbl : bs.length ≤ 14) (hys2 : IntsAre ys2 bs) (hys33 : IntsAre ys33 (hooksL bs)) (hhb : ∀ x ∈ hooksL bs, 1 ≤ x ∧ x < 14)
    (dBe : oBe.data = Data.cell (some (.ref D30))) (dS : oS.data = Data.cell (some (.int (st : Int) tS)))
    (F33 : Fr s.heap L h33 (mapOf [(Str.ofString "hooks", some (.ref D33)), (Str.ofString "slid", v1), (Str.ofString "one", v2), (Str.ofString "drawn", v3), (Str.ofString "second", v4), (Str.ofString "first", v5), (Str.ofString "way", v6), (Str.ofString "script", v7)]))
    (N33 : News s.heap L h33 [(D33, LCg.lst ys33), (D30, LCg.lst ys2), (L + 1 + 1 + 1 + 1 + 1, oBe), (L + 1 + 1, oS)]) :
    wpAny (model PySem.Challenge.rw_rw0080_01.row.prog w) (Around.deeper { handled := none, depth := dp, frames := fr, guards := gd, units := un } (envOfC (Str.ofString "law") (lawScope w.params) L 174 (.ref 173))) (execs ((lawCode w.params).drop 15) (envOfC (Str.ofString "law") (lawScope w.params) L 174 (.ref 173))) (fun fl s' => Q (match fl with | .ret v => v | _ => .none) s') (fun _ _ => False) { s with heap := h33, toks := tk33 } := by
  revert X; k_fill; intro X
  dsimp only [lawCode, lawScope, lawP, List.drop]
  k_steps
  refine Brk.mk ?_
  refine leads_spec (X.keeps F33.keep) (T.keeps F33.keep) (room 21 hA) (News.isList N33 (List.mem_cons_self ..)) hys33 hhb hlaw.few fun D34 h34 tk34 kp34 hR34 => ?_
  obtain ⟨refs, e34, tups, hD34, hn34, hrows, htups⟩ := rows_ledger hR34
  have F34 := F33.keeps kp34
  have N34 : News s.heap L h34 ((D34, PySem.W.listOf refs.toArray e34) :: (D33, LCg.lst ys33) :: (D30, LCg.lst ys2) :: (L + 1 + 1 + 1 + 1 + 1, oBe) :: (L + 1 + 1, oS) :: tups) :=
    news_more (l := [(D34, PySem.W.listOf refs.toArray e34), (D33, LCg.lst ys33), (D30, LCg.lst ys2), (L + 1 + 1 + 1 + 1 + 1, oBe), (L + 1 + 1, oS)]) F33 (news_add F33 N33 kp34 hn34 hD34) htups
  clear F33 N33
  dsimp only at F34 N34 ⊢
  k_steps
  rename_i h35 F35 N35
  refine Brk.mk ?_
  refine ListComp_3 F35 (by with_unfolding_all rfl) rfl (by decide) (by intro _; with_unfolding_all rfl) ?_
  k_steps
  have hrl : refs.length = (rowsOf (hooksL bs)).length := hrows.len
  have hrl2 := hlaw.rlen
  obtain ⟨NW, hNW⟩ : ∃ NW, NW = (D34, PySem.W.listOf refs.toArray e34) :: (D33, LCg.lst ys33) :: (D30, LCg.lst ys2) :: (L + 1 + 1 + 1 + 1 + 1, oBe) :: (L + 1 + 1, oS) :: tups := ⟨_, rfl⟩
  rw [← hNW] at N35
  have hmD : (D34, PySem.W.listOf refs.toArray e34) ∈ NW := by rw [hNW]; exact List.mem_cons_self ..
  have hmT : ∀ p ∈ tups, p ∈ NW := fun p hp => by rw [hNW]; exact mem_five hp
  refine Brk.mk ⟨D34, (fun ys nw => ∃ tups2, nw = tups2 ++ NW ∧ PairsIn tups2 ys (((rowsOf (hooksL bs))).map fun r => (r.1, r.2.1 - r.2.2))), rfl, ?_, ?_⟩
  · intro RR hRR
    refine block_3 (its := refs.toArray) (fun i ys nw => i ≤ (rowsOf (hooksL bs)).length ∧ ∃ tups2, nw = tups2 ++ NW ∧ PairsIn tups2 ys (((rowsOf (hooksL bs)).take i).map fun r => (r.1, r.2.1 - r.2.2))) rfl (by rw [List.size_toArray]; omega) ?_ (by decide) rfl rfl rfl rfl (by decide) (by decide) (by decide) F35 N35 ⟨Nat.zero_le _, [], rfl, .nil⟩ ?_ ?_
    · rintro i ys nw ⟨hi, tups2, rfl, P⟩
      refine ⟨?_, .inr ⟨_, List.mem_append_right _ hmD, rfl, _, rfl⟩⟩
      rw [P.len, List.length_map, List.length_take]; omega
    · rintro i v ys nw hv ⟨hi, tups2, rfl, P⟩
      have hvr : refs[i]? = some v := by simpa using hv
      have hlt : i < (rowsOf (hooksL bs)).length := by
        rw [← hrl]; exact (List.getElem?_eq_some_iff.mp hvr).1
      obtain ⟨r, hr⟩ : ∃ r, (rowsOf (hooksL bs))[i]? = some r := ⟨_, List.getElem?_eq_getElem hlt⟩
      obtain ⟨T1, t1, t2, t3, e1, e2⟩ := hrows.row i r hr
      rw [hvr] at e1
      obtain rfl := Option.some.inj e1
      refine ⟨T1, rowObj r t1 t2 t3, .int r.1 t1, .int r.2.1 t2, .int r.2.2 t3, _, rfl, List.mem_append_right _ (hmT _ e2), rfl, rfl, ?_⟩
      intro I oI C oC D m₂ h tk hC' hx' hy' hz' F' N' off' ne'
      show wpAny _ _ _ _ _ _
      k_steps
      refine Brk.mk ?_
      refine wpAny_newTuple ?_
      have hTI : @Ne Nat I h.objs.size := Nat.ne_of_lt (Heap.lt_size (N' (I, oI) (List.mem_cons_self ..)).1)
      have hTC : @Ne Nat C h.objs.size := Nat.ne_of_lt (Heap.lt_size (N' (C, oC) (List.mem_cons_of_mem _ (List.mem_cons_self ..))).1)
      have hTD : @Ne Nat D h.objs.size := Nat.ne_of_lt (Heap.lt_size (N' (D, _) (List.mem_cons_of_mem _ (List.mem_cons_of_mem _ (List.mem_cons_self ..)))).1)
      have N13 := N'.push F' (pairObj (r.1, r.2.1 - r.2.2) t1 tk)
      have F13 := F'.push (pairObj (r.1, r.2.1 - r.2.2) t1 tk)
      generalize h.objs.size = TT at *
      refine Brk.mk ⟨_, _, (TT, pairObj (r.1, r.2.1 - r.2.2) t1 tk) :: (tups2 ++ NW), rfl, F13, fun p hp => N13 p ?_, ?_, hlt, (TT, pairObj (r.1, r.2.1 - r.2.2) t1 tk) :: tups2, rfl, ?_⟩
      · exact mem_rot p hp
      · exact List.forall_mem_cons.mpr ⟨⟨Ne.symm hTI, Ne.symm hTC, Ne.symm hTD⟩, off'⟩
      · rw [List.take_add_one, hr, List.map_append]
        exact P.snoc TT (r.1, r.2.1 - r.2.2) t1 tk
    · intro D C h tk m' ys nw F' N' hD hn hC0 hD0 hCL hDL hCD hCn hJ
      obtain ⟨_, tups2, rfl, P⟩ := hJ
      rw [List.size_toArray, hrl, List.take_length] at P
      exact hRR D C h tk m' ys _ F' N' hD hn hC0 hD0 hCL hDL hCD hCn ⟨tups2, rfl, P⟩
  · rintro D36 h36 tk36 ys36 nw36 F36 N36 off36 ⟨tups2, rfl, P36⟩
    have N37 : News s.heap L h36 ((D36, LCg.lst ys36) :: (D34, PySem.W.listOf refs.toArray e34) :: (D33, LCg.lst ys33) :: (D30, LCg.lst ys2) :: (L + 1 + 1 + 1 + 1 + 1, oBe) :: (L + 1 + 1, oS) :: (tups ++ tups2)) := fun p hp => N36 p (by
      rw [hNW]
      exact mem_tail36 p hp)
    clear N36 F35 N35 hmD hmT
    dsimp only at F36 N37 ⊢
    k_steps
    rename_i l38 h38 F38 N38 l38b
    refine Brk.mk ?_
    refine add_lists_ints (vs := ys33) (ws := [Value.int 0 _]) F38 N38 (News.isList N38 (List.mem_cons_of_mem _ (List.mem_cons_of_mem _ (List.mem_cons_of_mem _ (List.mem_cons_self ..))))) (News.isList N38 (List.mem_cons_self ..)) hys33 (.cons _ _ .nil) (fun h39 F39 N39 hI39 => ?_) (hsz := by rw [PySem.sizeLine_eq]; have := hlaw.few; simp only [List.length_singleton]; omega)
    generalize h38.objs.size = D39 at *
    clear F38 N38 l38b
    dsimp only at F39 N39 ⊢
    k_steps
    refine Brk.mk ?_
    refine max_list_N rfl F39 N39 (News.isList N39 (List.mem_cons_self ..)) hI39 (by simp) fun h40 M t40 tk40 F40 N40 hM1 hM2 => ?_
    obtain ⟨n, rfl, hn15, hrow⟩ := hlaw.top M hM1 hM2
    rw [hrow] at P36
    replace N40 : News s.heap L h40 ((D36, LCg.lst ys36) :: (D34, PySem.W.listOf refs.toArray e34) :: (D30, LCg.lst ys2) :: (L + 1 + 1 + 1 + 1 + 1, oBe) :: (L + 1 + 1, oS) :: (tups ++ tups2)) := news_sub N40 (.cons _ (.cons _ (.cons_cons _ (.cons_cons _ (.cons _ (.refl _))))))
    clear F39 N39 hI39
    dsimp only at F40 N40 ⊢
    k_steps
    refine Brk.mk ?_
    refine due_spec (X.keeps F40.keep) (T.keeps F40.keep) (room 11 hA) (News.isList N40 (List.mem_cons_of_mem _ (List.mem_cons_of_mem _ (List.mem_cons_self ..)))) hys2 (fun x hx => ⟨Int.le_of_lt (hbm x hx).1, (hbm x hx).2⟩) (Nat.lt_of_le_of_lt hbl (by decide)) hn15 fun D42 h42 tk42 kp42 hP42 => ?_
    obtain ⟨refs2, e42, hD42, hn42, hl42, hr42⟩ := hP42
    have F42 := F40.keeps kp42
    have N42 : News s.heap L h42 ((D36, LCg.lst ys36) :: (D34, PySem.W.listOf refs.toArray e34) :: (D30, LCg.lst ys2) :: (L + 1 + 1 + 1 + 1 + 1, oBe) :: (L + 1 + 1, oS) :: (tups ++ tups2)) := N40.grown kp42
    clear F40 N40
    dsimp only at F42 N42 ⊢
    k_steps
    refine Brk.mk ?_
    refine ne_pairs (rows := dueTo bs n) (News.isList N42 (List.mem_cons_self ..)) ⟨_, hD42, rfl, _, rfl⟩ P36.len hl42 (fun i r hi => ?_) (fun i r hi => ?_) (room 67 hun) ?_
    · obtain ⟨T1, t1, t2, e1, e2⟩ := P36.row i r hi
      exact ⟨T1, t1, t2, e1, (N42 (T1, pairObj r t1 t2) (mem_deep e2)).1⟩
    · obtain ⟨T1, t1, t2, e1, e2, _⟩ := hr42 i r hi
      exact ⟨T1, t1, t2, e1, e2⟩
    replace N42 : News s.heap L h42 ((D34, PySem.W.listOf refs.toArray e34) :: (D30, LCg.lst ys2) :: (L + 1 + 1 + 1 + 1 + 1, oBe) :: (L + 1 + 1, oS) :: tups) := news_sub N42 (.cons _ (.cons_cons _ (.cons_cons _ (.cons_cons _ (.cons_cons _ (List.sublist_append_left _ _))))))
    clear hr42 hl42 hD42 hn42 P36
    (try dsimp only at F42 N42)
    (try dsimp only)
    k_steps
    refine Brk.mk ?_
    refine ListComp_3 F42 (by with_unfolding_all rfl) rfl (by decide) (by intro _; with_unfolding_all rfl) ?_
    k_steps
    refine Brk.mk ⟨D34, (fun ys nw => ys = [] ∧ nw = (D34, PySem.W.listOf refs.toArray e34) :: (D30, LCg.lst ys2) :: (L + 1 + 1 + 1 + 1 + 1, oBe) :: (L + 1 + 1, oS) :: tups), rfl, ?_, ?_⟩
    · intro RR hRR
      refine block_3 (its := refs.toArray) (fun i ys nw => ys = [] ∧ nw = (D34, PySem.W.listOf refs.toArray e34) :: (D30, LCg.lst ys2) :: (L + 1 + 1 + 1 + 1 + 1, oBe) :: (L + 1 + 1, oS) :: tups) rfl (by rw [List.size_toArray]; omega) ?_ (by decide) rfl rfl rfl rfl (by decide) (by decide) (by decide) F42 N42 ⟨rfl, rfl⟩ ?_ ?_
      · rintro i ys nw ⟨rfl, rfl⟩
        exact ⟨Nat.zero_le _, .inr ⟨_, List.mem_cons_self .., rfl, _, rfl⟩⟩
      · rintro i v ys nw hv ⟨rfl, rfl⟩
        have hvr : refs[i]? = some v := by simpa using hv
        have hlt : i < (rowsOf (hooksL bs)).length := by
          rw [← hrl]; exact (List.getElem?_eq_some_iff.mp hvr).1
        obtain ⟨r, hr⟩ : ∃ r, (rowsOf (hooksL bs))[i]? = some r := ⟨_, List.getElem?_eq_getElem hlt⟩
        obtain ⟨T1, t1, t2, t3, e1, e2⟩ := hrows.row i r hr
        have hrest := hlaw.rest r (List.mem_of_getElem? hr)
        rw [hvr] at e1
        obtain rfl := Option.some.inj e1
        refine ⟨T1, rowObj r t1 t2 t3, .int r.1 t1, .int r.2.1 t2, .int r.2.2 t3, _, rfl, mem_four e2, rfl, rfl, ?_⟩
        intro I oI C oC D m₂ h tk hC' hx' hy' hz' F' N' off' ne'
        show wpAny _ _ _ _ _ _
        obtain ⟨sz, fa, ne⟩ := r
        dsimp only at hrest hx' hy' hz'
        obtain ⟨hst0, hst1⟩ := hst2.small
        k_steps
        refine Brk.mk ?_
        exact ⟨_, _, _, rfl, F', N', off', rfl, rfl⟩
      · intro D C h tk m' ys nw F' N' hD hn hC0 hD0 hCL hDL hCD hCn hJ
        exact hRR D C h tk m' ys _ F' N' hD hn hC0 hD0 hCL hDL hCD hCn hJ
    · rintro D44 h44 tk44 ys44 nw44 F44 N44 off44 ⟨rfl, rfl⟩
      dsimp only at F44 N44 ⊢
      k_steps
      rename_i l45 h45 F45 N45 l45b
      refine Brk.mk ?_
      refine ne_intsK (vs := []) (us := []) (News.isList N45 (List.mem_cons_of_mem _ (List.mem_cons_self ..))) .nil (News.isList N45 (List.mem_cons_self ..)) .nil (room 67 hun) ?_
      replace N45 : News s.heap L h45 [(D30, LCg.lst ys2), (L + 1 + 1 + 1 + 1 + 1, oBe), (L + 1 + 1, oS)] := news_sub N45 (.cons _ (.cons _ (.cons _ (.cons_cons _ (.cons_cons _ (.cons_cons _ (List.nil_sublist _)))))))
      clear l45b
      (try dsimp only at F45 N45)
      (try dsimp only)
      k_steps
      refine Brk.mk ?_
      refine nest_spec (X.keeps F45.keep) (T.keeps F45.keep) (room 11 hA) (News.isList N45 (List.mem_cons_self ..)) hys2 (fun x hx => ⟨Int.le_of_lt (hbm x hx).1, (hbm x hx).2⟩) (Nat.lt_of_le_of_lt hbl (by decide)) hst2.room fun h46 tk46 t46 kp46 => ?_
      have F46 := F45.keeps kp46
      have N46 := N45.grown kp46
      clear F45 N45
      have hcps : (⟨(nestT (bs.map (·.fmod (st : Int))) st).toArray⟩ : Str).cps.toList = textOf st bs := rfl
      have hlen : (⟨(nestT (bs.map (·.fmod (st : Int))) st).toArray⟩ : Str).length ≤ 500 := by rw [list_len]; exact hlaw.short
      have hbr : Brackets ⟨(nestT (bs.map (·.fmod (st : Int))) st).toArray⟩ := ⟨fun c hc => hlaw.chars c (List.mem_toArray.mp hc), Nat.le_trans hlen (by decide)⟩
      generalize (⟨(nestT (bs.map (·.fmod (st : Int))) st).toArray⟩ : Str) = tx at *
      (try dsimp only at F46 N46)
      (try dsimp only)
      k_steps
      rename_i h47 F47 N47
      refine Brk.mk ?_
      refine check_spec (X.keeps F47.keep) (T.keeps F47.keep) (room 9 hA) hbr hgs fun h48 tk48 gs48 kp48 hgs48 => ?_
      rw [hcps, hlaw.takes]
      have F48 := F47.keeps kp48
      have N48 := N47.grown kp48
      clear F47 N47
      (try dsimp only at F48 N48)
      (try dsimp only)
      k_steps
      refine Brk.mk ?_
      refine told_spec (X.keeps F48.keep) (T.keeps F48.keep) (room 16 hA) hbr hlen hst2.room (by rw [hcps]; exact hlaw.tlen) hgs48 fun D49 ns49 ys49 e49 h49 tk49 gs49 kp49 hn49 hD49 hI49 hp49 hs49 hgs49 => ?_
      rw [hcps] at hp49
      obtain rfl := hlaw.told ns49 hp49 hs49
      have F49 := F48.keeps kp49
      have N49 := N48.grown kp49
      (try dsimp only at F49 N49)
      (try dsimp only)
      k_steps
      refine Brk.mk ?_
      refine eq_intsK ⟨_, hD49, rfl, _, rfl⟩ hI49 (News.isList N49 (List.mem_cons_self ..)) hys2 (room 67 hun) ?_
      rw [decide_eq_true rfl]
      k_steps
      exact hret _ _ _ F49.keep hgs49
end
section
local macro_rules | `(tactic| walk_at "call builtin:sum") => `(tactic| refine Brk.go ?_)
local macro_rules | `(tactic| walk_at "CompSrcT") => `(tactic| refine Brk.go ?_)
local macro_rules | `(tactic| walk_at "CompSrc") => `(tactic| refine Brk.go ?_)
local macro_rules | `(tactic| walk_at "CompEnd") => `(tactic| refine Brk.go ?_)
local macro_rules | `(tactic| walk_at "newTuple") => `(tactic| refine Brk.go ?_)
local macro_rules | `(tactic| walk_at "call builtin:list.append") => `(tactic| refine Brk.go ?_)
local macro_rules | `(tactic| walk_at "compareOp NotEq ref ref") => `(tactic| refine Brk.go ?_)
local macro_rules | `(tactic| walk_at "execs cons") => `(tactic| refine Brk.go ?_)
set_option pp.deepTerms false
set_option pp.deepTerms.threshold 6
theorem bead_nat {r i : Nat} (hi : i < (beadsOf r).length) : ((beadsOf r).getD i 0).toNat ≤ 1000 := by
  have := getD_bd hi
  omega
theorem hook_room {j : Nat} {x : Int} (hj : j < x.toNat) (hx : x < 14) : j + 1 ≤ 15 := by omega
theorem map_cons_upd (p : Str × Option Value) (r : List (Str × Option Value)) (z : Str) : (if z = p.1 then p.2 else mapOf r z) = mapOf (p :: r) z := (mapOf_cons p r z).symm
theorem hooks_bd {r : Nat} : ∀ x ∈ hooksL (beadsOf r), 1 ≤ x ∧ x < 14 := fun x hx => by
  obtain ⟨bb, hbb, hx2⟩ := List.mem_flatMap.mp hx
  obtain ⟨p, hp, rfl⟩ := List.mem_map.mp hx2
  have hb3 := beadsOf_mem bb hbb
  have hp3 := List.mem_range.mp (List.mem_filter.mp hp).1
  omega
theorem not_bit {r i : Nat} (hr2 : r < 2 ^ 14) (hq : ((bitsTo r 14).any fun x => x == (i : Int)) = false) : r.testBit i = false := by
  cases hb : r.testBit i with
  | false => rfl
  | true =>
    have := (List.any_eq_true (p := fun x => x == (i : Int))).mpr ⟨_, (mem_bitsTo hr2).mpr hb, by simp⟩
    rw [this] at hq; cases hq
set_option maxRecDepth 100000 in
set_option maxHeartbeats 4000000 in
theorem hooks_spec {w : World} {mean : ExcName → Option Value} {mg mb : Str → Option Value} {dp un : Nat} {fr : Option (List Env)} {gd : Option (List Code)} {s : Shared} {Q : Value → Shared → Prop} {L : Addr} {h : Heap} {tk : Nat} {v1 v2 v3 v4 v5 v6 v7 : Option Value} {D30 : Addr} {ys2 : List Value} {oBe oS : Obj} {tS : Tok} {st r : Nat}
    (X : (hd.heap_1 w.params).In s.heap) (T : Top qv LO mean mg mb s.heap) (hA : dp + 30 < recursionLimit) (hun : un + 100 < cLine) (hgs : ∀ g ∈ s.gens, g.bare = true)
    (hret : ∀ h' tk' gs', Kp s.heap h' → (∀ g ∈ gs', g.bare = true) → Q (.bool true) { s with heap := h', toks := tk', gens := gs' })
    (hst2 : Step3 st) (hlaw : LawOk st (beadsOf r)) (hys2 : IntsAre ys2 (beadsOf r)) (dBe : oBe.data = Data.cell (some (.ref D30))) (dS : oS.data = Data.cell (some (.int (st : Int) tS)))
    (F : Fr s.heap L h (mapOf [(Str.ofString "slid", v1), (Str.ofString "one", v2), (Str.ofString "drawn", v3), (Str.ofString "second", v4), (Str.ofString "first", v5), (Str.ofString "way", v6), (Str.ofString "script", v7)]))
    (N : News s.heap L h [(D30, LCg.lst ys2), (L + 1 + 1 + 1 + 1 + 1, oBe), (L + 1 + 1, oS)]) : LawAt w { handled := none, depth := dp, frames := fr, guards := gd, units := un } s Q L 14 h tk := by
  unfold LawAt
  revert X; k_fill; intro X
  dsimp only [lawCode, lawScope, lawP, List.drop]
  (try k_fold)
  refine wpAny_execs_cons ?_
  have hyl2 := hys2.length
  have hbl := beadsOf_len r
  k_steps
  refine Assign_two F rfl (by with_unfolding_all rfl) (by with_unfolding_all rfl) rfl (by decide) rfl rfl (by intro _; with_unfolding_all rfl) ?_
  k_steps
  have hysz : ys2.toArray.size = (beadsOf r).length := by rw [List.size_toArray]; exact hyl2
  refine Brk.mk ⟨D30, [(D30, LCg.lst ys2), (L + 1 + 1 + 1 + 1 + 1, oBe), (L + 1 + 1, oS)], (fun ys => IntsAre ys (hooksL (beadsOf r))), rfl, ?_, ?_⟩
  · intro RR hRR
    clear hret hlaw hgs
    refine block_2 (its := ys2.toArray) (fun i => ((beadsOf r).getD i 0).toNat) (fun i j ys => i ≤ (beadsOf r).length ∧ j ≤ 15 ∧ IntsAre ys (hooksTo (beadsOf r) i j)) rfl (by rw [hysz]; exact Nat.le_trans hbl (by decide)) ?_ ?_ (by decide) rfl rfl rfl (by decide) F N (Or.inr ⟨_, List.mem_cons_self .., rfl, _, rfl⟩) (by intros; with_unfolding_all rfl) ⟨Nat.zero_le _, Nat.zero_le _, .nil⟩ ?_ ?_ ?_ ?_
    · intro i hi
      exact bead_nat (hysz ▸ hi)
    · rintro i j ys ⟨h1, h2, h3⟩
      rw [h3.length]
      exact Nat.le_trans (hooksTo_len h2) (by decide)
    · rintro i ys hi ⟨h1, h2, h3⟩
      exact ⟨hysz ▸ hi, Nat.zero_le _, by rw [← hooksTo_next (hysz ▸ hi)]; exact h3⟩
    · rintro i v I oI C' oC' D ys m' h' tk' hi hv hC' hx' F' N'
      obtain ⟨xb, tx, hxi, rfl⟩ := ints_at hys2 (show ys2[i]? = some v by simpa using hv)
      have hgd := getD_of hxi
      have hxb := getD_bd (r := r) (i := i) (hysz ▸ hi)
      rw [hgd] at hxb
      k_steps
      rename_i h40 tk40 q1 q2 q3 hR40 F40 N40 kp40
      refine Brk.mk ⟨_, h40, tk40, q1, q2, q3, rfl, rfl, ?_, F40, N40⟩
      rw [hgd]
      have e40 : ((xb.toNat : Nat) : Int) = xb := Int.toNat_of_nonneg (Int.le_of_lt hxb.1)
      rw [e40]
      exact hR40
    · rintro i j v t I2 oI2 C' oC' D ys m' h' tk' I oI hv hi hj ⟨h1, h2, h3⟩ hC' hx' hy' F' N'
      obtain ⟨xb, tx, hxi, rfl⟩ := ints_at hys2 (show ys2[i]? = some v by simpa using hv)
      have hgd := getD_of hxi
      have hxb := getD_bd (r := r) (i := i) (hysz ▸ hi)
      (try dsimp only at hj)
      rw [hgd] at hxb hj
      have hj15 : j + 1 ≤ 15 := hook_room hj hxb.2
      clear hj hv hxi hi hysz hyl2 hbl
      k_steps
      · rename_i hl40 hI40 hq40
        exact Brk.mk ⟨_, _, rfl, F', N', h1, hj15, by rw [hooksTo_no hq40]; exact h3⟩
      · rename_i hl40 hI40 hq40
        exact Brk.mk ⟨_, _, rfl, F', N', h1, hj15, by rw [hooksTo_yes hq40, hgd]; exact IntsAre.append h3 (.cons _ _ .nil)⟩
    · intro D C' h' tk' m' ys F' N' hD' hn' hC0 hD0' hCL hDL hCD hCn hJ
      exact hRR D C' h' tk' m' ys F' N' hD' hn' hC0 hD0' hCL hDL hCD hCn (by rw [hysz] at hJ; rw [← hooksTo_end]; exact hJ.2.2)
  · intro D33 h33 tk33 ys33 F33 N33 _ hys33
    exact tail_spec (s := s) (fr := fr) (gd := gd) (dp := dp) X T hA hun hgs hret hst2 hlaw beadsOf_mem hbl hys2 hys33 hooks_bd dBe dS (Fr.congr F33 (fun z => map_cons_upd (Str.ofString "hooks", some (.ref D33)) _ z)) N33
set_option maxRecDepth 100000 in
set_option maxHeartbeats 4000000 in
theorem beads_spec {w : World} {mean : ExcName → Option Value} {mg mb : Str → Option Value} {dp un : Nat} {fr : Option (List Env)} {gd : Option (List Code)} {s : Shared} {Q : Value → Shared → Prop} {L : Addr} {h : Heap} {tk : Nat} {v1 v2 v3 v4 v5 v6 v7 : Option Value} {D18 : Addr} {ys18 : List Value} {e18 : Nat} {oBe oL oB oS : Obj} {tS tL : Tok} {st r : Nat} {u1 : Option Value}
    (X : (hd.heap_1 w.params).In s.heap) (T : Top qv LO mean mg mb s.heap) (hA : dp + 30 < recursionLimit) (hun : un + 100 < cLine) (hgs : ∀ g ∈ s.gens, g.bare = true)
    (hret : ∀ h' tk' gs', Kp s.heap h' → (∀ g ∈ gs', g.bare = true) → Q (.bool true) { s with heap := h', toks := tk', gens := gs' })
    (hst2 : Step3 st) (hlaw : LawOk st (beadsOf r)) (hI18 : IntsAre ys18 (bitsTo r 14)) (d1 : oBe.data = Data.cell u1) (dL : oL.data = Data.cell (some (.int (lowOf r : Int) tL))) (dB : oB.data = Data.cell (some (.ref D18))) (dS : oS.data = Data.cell (some (.int (st : Int) tS)))
    (hD18 : (@Ne Nat (L + 1 + 1 + 1 + 1 + 1) D18))
    (F : Fr s.heap L h (mapOf [(Str.ofString "slid", v1), (Str.ofString "one", v2), (Str.ofString "drawn", v3), (Str.ofString "second", v4), (Str.ofString "first", v5), (Str.ofString "way", v6), (Str.ofString "script", v7)]))
    (N : News s.heap L h [(D18, seqObj "list" ys18.toArray e18), (L + 1 + 1 + 1 + 1 + 1, oBe), (L + 1 + 1 + 1 + 1, oL), (L + 1 + 1 + 1, oB), (L + 1 + 1, oS)]) : LawAt w { handled := none, depth := dp, frames := fr, guards := gd, units := un } s Q L 13 h tk := by
  unfold LawAt
  revert X; k_fill; intro X
  dsimp only [lawCode, lawScope, lawP, List.drop]
  (try k_fold)
  refine wpAny_execs_cons ?_
  have hyl := hI18.length
  k_steps
  refine Brk.mk ?_
  refine LCt.CompSrcT.ledger rfl F N (List.mem_cons_self ..) (by rw [PySem.sizeLine_eq, List.size_toArray, hyl]; exact Nat.le_trans (bitsTo_len r 14) (by decide)) fun g2 => ?_
  refine compT_ind _ _ (fun i ys => IntsAre ys (beadsL ((bitsTo r 14).take i) (lowOf r : Int))) (by rw [List.take_zero]; exact .nil) ?_ ?_
  · rintro ys2 hys2
    rw [List.size_toArray, hyl, List.take_length] at hys2
    replace hys2 : IntsAre ys2 (beadsOf r) := hys2
    (try dsimp only)
    clear hyl
    k_steps
    rename_i D30 h31 tk31 o31 h32 oBe F32 N32 dBe
    refine Brk.mk ?_
    exact hooks_spec (s := s) X T hA hun hgs hret hst2 hlaw hys2 dBe dS F32 (news_sub N32 (.cons_cons _ (.cons _ (.cons_cons _ (.cons _ (.cons _ (.cons_cons _ (.refl _))))))))
  · rintro k i ys2 hi2 hys2 hrec2
    clear hret hlaw hgs hyl
    refine LCt.CompRestT.succ ?_
    rintro v I oI C' oC' D m' h' tk' E' hv hC' hx' F' N' off' ne'
    obtain ⟨x, tx, hxi, rfl⟩ := ints_at hI18 (show ys18[i]? = some v by simpa using hv)
    clear hv
    k_steps
    · rename_i hq
      refine Brk.mk ?_
      exact LCg.CompEnd.intro (by assumption) (by assumption) _ (fun p hp => hp) off' (Or.inr ⟨_, List.mem_cons_self .., rfl, _, rfl⟩) (hrec2 _ (by rw [take_snoc hxi, beadsL_yes hq]; exact IntsAre.append hys2 (.cons _ _ .nil)))
    · rename_i hq
      refine Brk.mk ?_
      exact LCg.CompEnd.intro (by assumption) (by assumption) _ (fun p hp => hp) off' (Or.inr ⟨_, List.mem_cons_self .., rfl, _, rfl⟩) (hrec2 _ (by rw [take_snoc hxi, beadsL_no hq]; exact hys2))
set_option maxRecDepth 100000 in
set_option maxHeartbeats 4000000 in
theorem low_spec {w : World} {mean : ExcName → Option Value} {mg mb : Str → Option Value} {dp un : Nat} {fr : Option (List Env)} {gd : Option (List Code)} {s : Shared} {Q : Value → Shared → Prop} {L : Addr} {h : Heap} {tk : Nat} {v1 v2 v3 v4 v5 v6 v7 : Option Value} {D18 : Addr} {ys18 : List Value} {e18 : Nat} {o1 o2 oB oS : Obj} {tS : Tok} {st r : Nat} {u1 u2 : Option Value}
    (X : (hd.heap_1 w.params).In s.heap) (T : Top qv LO mean mg mb s.heap) (hA : dp + 30 < recursionLimit) (hun : un + 100 < cLine) (hgs : ∀ g ∈ s.gens, g.bare = true)
    (hret : ∀ h' tk' gs', Kp s.heap h' → (∀ g ∈ gs', g.bare = true) → Q (.bool true) { s with heap := h', toks := tk', gens := gs' })
    (hst2 : Step3 st) (hlaw : LawOk st (beadsOf r)) (hr2 : r < 2 ^ 14) (hI18 : IntsAre ys18 (bitsTo r 14)) (d1 : o1.data = Data.cell u1) (d2 : o2.data = Data.cell u2) (dB : oB.data = Data.cell (some (.ref D18))) (dS : oS.data = Data.cell (some (.int (st : Int) tS)))
    (hD18 : (@Ne Nat (L + 1 + 1 + 1 + 1 + 1) D18)) (hD18' : (@Ne Nat (L + 1 + 1 + 1 + 1) D18))
    (F : Fr s.heap L h (mapOf [(Str.ofString "slid", v1), (Str.ofString "one", v2), (Str.ofString "drawn", v3), (Str.ofString "second", v4), (Str.ofString "first", v5), (Str.ofString "way", v6), (Str.ofString "script", v7)]))
    (N : News s.heap L h [(D18, seqObj "list" ys18.toArray e18), (L + 1 + 1 + 1 + 1 + 1, o1), (L + 1 + 1 + 1 + 1, o2), (L + 1 + 1 + 1, oB), (L + 1 + 1, oS)]) : LawAt w { handled := none, depth := dp, frames := fr, guards := gd, units := un } s Q L 12 h tk := by
  unfold LawAt
  revert X; k_fill; intro X
  dsimp only [lawCode, lawScope, lawP, List.drop]
  (try k_fold)
  refine wpAny_execs_cons ?_
  k_steps
  rename_i h27 tk27 y1 y2 y3 hR27 F27 N27 kp27
  refine Brk.mk ?_
  refine LCt.CompSrcT.range (n := 15) rfl F27 N27 hR27 (by decide) rfl (by rw [PySem.sizeLine_eq]; decide) fun g => ?_
  refine compT_ind _ _ (fun i ys => IntsAre ys (freeTo r i)) .nil ?_ ?_
  · rintro ys hys
    have hyl := hys.length
    (try dsimp only)
    k_steps
    rename_i D28 h28 tk28 F28 N28 o28
    refine min_list_N rfl F28 N28 (News.isList N28 (List.mem_cons_self ..)) hys (List.length_pos_of_mem (free14 hr2)) fun h29 M t29 tk29 F29 N29 hM1 hM2 => ?_
    have hM := low_eq hM1 hM2
    subst hM
    clear hM1 hM2 F28 N28 hys hyl o28
    replace N29 := news_sub N29 (.cons _ (.refl _))
    (try dsimp only at F29 N29)
    (try dsimp only)
    k_steps
    rename_i h30 oL F30 N30 dL
    refine Brk.mk ?_
    exact beads_spec (s := s) X T hA hun hgs hret hst2 hlaw hI18 d1 dL dB dS hD18 F30 N30
  · rintro k i ys hi hys hrec
    clear hret hlaw hgs
    refine LCt.CompRestT.succ ?_
    rintro v I oI C' oC' D m' h' tk' E' ⟨ti, rfl⟩ hC' hx' F' N' off' ne'
    rw [Int.zero_add] at *
    k_steps
    · rename_i hq
      refine Brk.mk ?_
      obtain ⟨y, hy1, hy2⟩ := List.any_eq_true.mp hq
      have hb1 : r.testBit i = true := (mem_bitsTo hr2).mp (eq_of_beq hy2 ▸ hy1)
      exact LCg.CompEnd.intro (by assumption) (by assumption) _ (fun p hp => hp) off' trivial (hrec _ (by rw [freeTo_no hb1]; exact hys))
    · rename_i hq
      refine Brk.mk ?_
      have hb0 : r.testBit i = false := not_bit hr2 hq
      exact LCg.CompEnd.intro (by assumption) (by assumption) _ (fun p hp => hp) off' trivial (hrec _ (by rw [freeTo_yes hb0]; exact IntsAre.append hys (.cons _ _ .nil)))
end
section
local macro_rules | `(tactic| walk_at "call builtin:sum") => `(tactic| refine Brk.go ?_)
local macro_rules | `(tactic| walk_at "CompSrcT") => `(tactic| refine Brk.go ?_)
local macro_rules | `(tactic| walk_at "CompSrc") => `(tactic| refine Brk.go ?_)
local macro_rules | `(tactic| walk_at "CompEnd") => `(tactic| refine Brk.go ?_)
local macro_rules | `(tactic| walk_at "newTuple") => `(tactic| refine Brk.go ?_)
local macro_rules | `(tactic| walk_at "call builtin:list.append") => `(tactic| refine Brk.go ?_)
local macro_rules | `(tactic| walk_at "compareOp NotEq ref ref") => `(tactic| refine Brk.go ?_)
local macro_rules | `(tactic| walk_at "execs cons") => `(tactic| refine Brk.go ?_)
set_option pp.deepTerms false
set_option pp.deepTerms.threshold 6
theorem bit_zero {fl i : Nat} (hq : ¬ Builtin.bitAnd ((fl : Int).fdiv (2 ^ i)) 1 = 1) : fl.testBit i = false := by
  cases hb : fl.testBit i with
  | false => rfl
  | true => exact absurd (bit_one.mpr hb) hq
set_option maxRecDepth 100000 in
set_option maxHeartbeats 4000000 in
theorem slid_spec {w : World} {mean : ExcName → Option Value} {mg mb : Str → Option Value} {dp un : Nat} {fr : Option (List Env)} {gd : Option (List Code)} {s : Shared} {Q : Value → Shared → Prop} {L : Addr} {h : Heap} {tk : Nat} {v3 v6 v7 : Option Value} {D16 D18 : Addr} {ys16 ys18 : List Value} {e16 e18 : Nat} {o1 o2 oB oS oF : Obj} {tS tF t1 t2 : Tok} {st fl f1 f2 r1 r2 : Nat} {u1 u2 : Option Value}
    (X : (hd.heap_1 w.params).In s.heap) (T : Top qv LO mean mg mb s.heap) (hA : dp + 30 < recursionLimit) (hun : un + 100 < cLine) (hgs : ∀ g ∈ s.gens, g.bare = true)
    (hret : ∀ h' tk' gs', Kp s.heap h' → (∀ g ∈ gs', g.bare = true) → Q (.bool true) { s with heap := h', toks := tk', gens := gs' })
    (hst2 : Step3 st) (hlaw : LawOk st (beadsOf r2)) (p0 : fl < 2 ^ 14) (p1 : r1 < 2 ^ 14) (p2 : r2 < 2 ^ 14) (q1 : ∀ r, Sunk f1 fl r → r = r1) (q2 : ∀ r, Sunk f2 r1 r → r = r2) (q3 : ∀ r, Sunk f1 r2 r → r = r2) (s1 : Step4 f1) (s2 : Step4 f2)
    (hI16 : IntsAre ys16 (bitsTo r1 14)) (hI18 : IntsAre ys18 (bitsTo r2 14)) (d1 : o1.data = Data.cell u1) (d2 : o2.data = Data.cell u2) (dB : oB.data = Data.cell (some (.ref D18))) (dS : oS.data = Data.cell (some (.int (st : Int) tS))) (dF : oF.data = Data.cell (some (.int (fl : Int) tF)))
    (hD18 : (@Ne Nat (L + 1 + 1 + 1 + 1 + 1) D18)) (hD18' : (@Ne Nat (L + 1 + 1 + 1 + 1) D18))
    (F : Fr s.heap L h (mapOf [(Str.ofString "one", some (.ref D16)), (Str.ofString "drawn", v3), (Str.ofString "second", some (.int (f2 : Int) t2)), (Str.ofString "first", some (.int (f1 : Int) t1)), (Str.ofString "way", v6), (Str.ofString "script", v7)]))
    (N : News s.heap L h [(D18, seqObj "list" ys18.toArray e18), (D16, seqObj "list" ys16.toArray e16), (L + 1 + 1 + 1 + 1 + 1, o1), (L + 1 + 1 + 1 + 1, o2), (L + 1 + 1 + 1, oB), (L + 1 + 1, oS), (L + 1, oF)]) : LawAt w { handled := none, depth := dp, frames := fr, guards := gd, units := un } s Q L 8 h tk := by
  unfold LawAt
  revert X; k_fill; intro X
  dsimp only [lawCode, lawScope, lawP, List.drop]
  (try k_fold)
  refine wpAny_execs_cons ?_
  k_steps
  refine Brk.mk ?_
  refine sunk_spec (X.keeps F.keep) (T.keeps F.keep) (room 11 hA) p0 s1.room'.1 s1.room'.2 fun r t20 h20 tk20 kp20 H20 => ?_
  obtain rfl := q1 r H20
  have F20 := F.keeps kp20
  have N20 := N.grown kp20
  clear F N H20 kp20
  (try dsimp only)
  k_steps
  rename_i h21 F21 N21
  refine Brk.mk ?_
  refine wpAny_execs_cons ?_
  k_steps
  refine Brk.mk ?_
  refine flags_spec (X.keeps F21.keep) (T.keeps F21.keep) (room 6 hA) (News.isList N21 (List.mem_cons_of_mem _ (List.mem_cons_self ..))) hI16 (fun x hx => bitsTo_mem x hx) (bits_few r) fun t22 h22 tk22 kp22 => ?_
  rw [flags_sum r 14 p1]
  have F22 := F21.keeps kp22
  have N22 := N21.grown kp22
  clear F21 N21 kp22
  (try dsimp only)
  k_steps
  · exact absurd rfl (by assumption)
  rename_i heq
  clear heq
  refine Brk.mk ?_
  refine wpAny_execs_cons ?_
  k_steps
  refine Brk.mk ?_
  refine sunk_spec (X.keeps F22.keep) (T.keeps F22.keep) (room 11 hA) p1 s2.room'.1 s2.room'.2 fun r' t23 h23 tk23 kp23 H23 => ?_
  obtain rfl := q2 r' H23
  have F23 := F22.keeps kp23
  have N23 := N22.grown kp23
  clear F22 N22 H23 kp23
  (try dsimp only)
  k_steps
  rename_i h24 F24 N24
  refine Brk.mk ?_
  refine wpAny_execs_cons ?_
  k_steps
  refine Brk.mk ?_
  refine flags_spec (X.keeps F24.keep) (T.keeps F24.keep) (room 6 hA) (News.isList N24 (List.mem_cons_self ..)) hI18 (fun x hx => bitsTo_mem x hx) (bits_few r') fun t25 h25 tk25 kp25 => ?_
  rw [flags_sum r' 14 p2]
  have F25 := F24.keeps kp25
  have N25 := N24.grown kp25
  clear F24 N24 kp25
  (try dsimp only)
  k_steps
  · exact absurd rfl (by assumption)
  rename_i heq
  clear heq
  refine Brk.mk ?_
  refine sunk_spec (X.keeps F25.keep) (T.keeps F25.keep) (room 11 hA) p2 s1.room'.1 s1.room'.2 fun r3 t26 h26 tk26 kp26 H26 => ?_
  obtain rfl := q3 r3 H26
  have F26 := F25.keeps kp26
  have N26 := N25.grown kp26
  clear F25 N25 H26 kp26
  (try dsimp only)
  k_steps
  · exact absurd rfl (by assumption)
  rename_i heq
  clear heq
  refine Brk.mk ?_
  exact low_spec (s := s) X T hA hun hgs hret hst2 hlaw p2 hI18 d1 d2 dB dS hD18 hD18' (Fr.congr F26 (by walk_at "MAP")) (news_sub N26 (.cons_cons _ (.cons _ (.cons_cons _ (.cons_cons _ (.cons_cons _ (.cons_cons _ (.cons _ (.refl _)))))))))
set_option maxRecDepth 100000 in
set_option maxHeartbeats 4000000 in
theorem pack_spec {w : World} {mean : ExcName → Option Value} {mg mb : Str → Option Value} {dp un : Nat} {fr : Option (List Env)} {gd : Option (List Code)} {s : Shared} {Q : Value → Shared → Prop} {L : Addr} {h : Heap} {tk : Nat} {v6 v7 : Option Value} {o1 o2 o3 oS oF : Obj} {tS tF t1 t2 : Tok} {st fl f1 f2 r1 r2 : Nat} {u1 u2 u3 : Option Value}
    (X : (hd.heap_1 w.params).In s.heap) (T : Top qv LO mean mg mb s.heap) (hA : dp + 30 < recursionLimit) (hun : un + 100 < cLine) (hgs : ∀ g ∈ s.gens, g.bare = true)
    (hret : ∀ h' tk' gs', Kp s.heap h' → (∀ g ∈ gs', g.bare = true) → Q (.bool true) { s with heap := h', toks := tk', gens := gs' })
    (hst2 : Step3 st) (hlaw : LawOk st (beadsOf r2)) (p0 : fl < 2 ^ 14) (p1 : r1 < 2 ^ 14) (p2 : r2 < 2 ^ 14) (q1 : ∀ r, Sunk f1 fl r → r = r1) (q2 : ∀ r, Sunk f2 r1 r → r = r2) (q3 : ∀ r, Sunk f1 r2 r → r = r2) (s1 : Step4 f1) (s2 : Step4 f2)
    (w1 : ∀ ns : List Int, ns.Perm (packL (bitsTo fl 14) (f1 : Int)) → ns.Pairwise (· ≤ ·) → ns = bitsTo r1 14) (w2 : ∀ ns : List Int, ns.Perm (packL (bitsTo r1 14) (f2 : Int)) → ns.Pairwise (· ≤ ·) → ns = bitsTo r2 14)
    (d1 : o1.data = Data.cell u1) (d2 : o2.data = Data.cell u2) (d3 : o3.data = Data.cell u3) (dS : oS.data = Data.cell (some (.int (st : Int) tS))) (dF : oF.data = Data.cell (some (.int (fl : Int) tF)))
    (F : Fr s.heap L h (mapOf [(Str.ofString "second", some (.int (f2 : Int) t2)), (Str.ofString "first", some (.int (f1 : Int) t1)), (Str.ofString "way", v6), (Str.ofString "script", v7)]))
    (N : News s.heap L h [(L + 1 + 1 + 1 + 1 + 1, o1), (L + 1 + 1 + 1 + 1, o2), (L + 1 + 1 + 1, o3), (L + 1 + 1, oS), (L + 1, oF)]) : LawAt w { handled := none, depth := dp, frames := fr, guards := gd, units := un } s Q L 5 h tk := by
  unfold LawAt
  revert X; k_fill; intro X
  dsimp only [lawCode, lawScope, lawP, List.drop]
  (try k_fold)
  refine wpAny_execs_cons ?_
  k_steps
  rename_i h14 tk14 x1 x2 x3 hR14 F14 N14 kp14
  refine Brk.mk ?_
  refine LCt.CompSrcT.range (n := 14) rfl F14 N14 hR14 (by decide) rfl (by rw [PySem.sizeLine_eq]; decide) fun g => ?_
  refine compT_ind _ _ (fun i ys => IntsAre ys (bitsTo fl i)) .nil ?_ ?_
  · rintro ys hys
    (try dsimp only)
    k_steps
    rename_i D1 h15 tk15 F15 N15 o15
    refine Brk.mk ?_
    refine wpAny_execs_cons ?_
    k_steps
    refine Brk.mk ?_
    refine packed_spec (X.keeps F15.keep) (T.keeps F15.keep) (room 6 hA) (News.isList N15 (List.mem_cons_self ..)) hys (fun x hx => bitsTo_mem x hx) (bits_few fl) s1.room fun D16 ns16 ys16 e16 h16 tk16 kp16 hD0 hD1 hI16 hp16 hs16 => ?_
    obtain rfl := w1 ns16 hp16 hs16
    have F16 := F15.keeps kp16
    have hne16 := new_ne N15 hD0
    have N16 := news_sub (news_add F15 N15 kp16 hD0 hD1) (.cons_cons _ (.cons _ (.refl _)))
    have g1 : @Ne Nat (L + 1 + 1 + 1) D16 := hne16 (L + 1 + 1 + 1, o3) (by k_mem)
    clear F15 N15 hp16 hs16 kp16 hne16 o15 hD0 hD1 hys
    (try dsimp only at F16 N16)
    (try dsimp only)
    k_steps
    rename_i h17 F17 N17
    refine Brk.mk ?_
    refine wpAny_execs_cons ?_
    k_steps
    refine Brk.mk ?_
    refine packed_spec (X.keeps F17.keep) (T.keeps F17.keep) (room 6 hA) (News.isList N17 (List.mem_cons_self ..)) hI16 (fun x hx => bitsTo_mem x hx) (bits_few r1) s2.room fun D18 ns18 ys18 e18 h18 tk18 kp18 hE0 hE1 hI18 hp18 hs18 => ?_
    obtain rfl := w2 ns18 hp18 hs18
    have F18 := F17.keeps kp18
    have hne18 := new_ne N17 hE0
    have N18 := news_add F17 N17 kp18 hE0 hE1
    have g2 : @Ne Nat (L + 1 + 1 + 1) D18 := hne18 (L + 1 + 1 + 1, o3) (by k_mem)
    have g3 : @Ne Nat (L + 1 + 1 + 1 + 1) D18 := hne18 (L + 1 + 1 + 1 + 1, o2) (by k_mem)
    have g4 : @Ne Nat (L + 1 + 1 + 1 + 1 + 1) D18 := hne18 (L + 1 + 1 + 1 + 1 + 1, o1) (by k_mem)
    clear F17 N17 hp18 hs18 kp18 hne18 hE0 hE1
    (try dsimp only at F18 N18)
    (try dsimp only)
    k_steps
    rename_i h19 oB F19 N19 dB
    refine Brk.mk ?_
    exact slid_spec (s := s) X T hA hun hgs hret hst2 hlaw p0 p1 p2 q1 q2 q3 s1 s2 hI16 hI18 d1 d2 dB dS dF g4 g3 (Fr.congr F19 (by walk_at "MAP")) N19
  · rintro k i ys hi hys hrec
    clear hret hlaw hgs q1 q2 q3 w1 w2
    refine LCt.CompRestT.succ ?_
    rintro v I oI C' oC' D m' h' tk' E' ⟨ti, rfl⟩ hC' hx' F' N' off' ne'
    rw [Int.zero_add] at *
    k_steps
    · rename_i hq
      refine Brk.mk ?_
      rw [Int.toNat_natCast] at hq
      exact LCg.CompEnd.intro (by assumption) (by assumption) _ (fun p hp => hp) off' trivial (hrec _ (by rw [bitsTo_yes (bit_one.mp hq)]; exact IntsAre.append hys (.cons _ _ .nil)))
    · rename_i hq
      refine Brk.mk ?_
      rw [Int.toNat_natCast] at hq
      exact LCg.CompEnd.intro (by assumption) (by assumption) _ (fun p hp => hp) off' trivial (hrec _ (by rw [bitsTo_no (bit_zero hq)]; exact hys))
end
section
local macro_rules | `(tactic| walk_at "call builtin:sum") => `(tactic| refine Brk.go ?_)
local macro_rules | `(tactic| walk_at "CompSrcT") => `(tactic| refine Brk.go ?_)
local macro_rules | `(tactic| walk_at "CompSrc") => `(tactic| refine Brk.go ?_)
local macro_rules | `(tactic| walk_at "CompEnd") => `(tactic| refine Brk.go ?_)
local macro_rules | `(tactic| walk_at "newTuple") => `(tactic| refine Brk.go ?_)
local macro_rules | `(tactic| walk_at "call builtin:list.append") => `(tactic| refine Brk.go ?_)
local macro_rules | `(tactic| walk_at "compareOp NotEq ref ref") => `(tactic| refine Brk.go ?_)
local macro_rules | `(tactic| walk_at "execs cons") => `(tactic| refine Brk.go ?_)
set_option pp.deepTerms false
set_option pp.deepTerms.threshold 6
theorem map_cons3 (p q r : Str × Option Value) (l : List (Str × Option Value)) (z : Str) : (if z = p.1 then p.2 else if z = q.1 then q.2 else if z = r.1 then r.2 else mapOf l z) = mapOf (p :: q :: r :: l) z := by
  rw [mapOf_cons, mapOf_cons, mapOf_cons]
theorem flags_nat (z : Int) : ∃ fl : Nat, (15562 + z).fmod 16384 = (fl : Int) ∧ fl < 2 ^ 14 := by
  have h1 := Int.fmod_nonneg_of_pos (15562 + z) (show (0 : Int) < 16384 by decide)
  have h2 := Int.fmod_lt_of_pos (15562 + z) (show (0 : Int) < 16384 by decide)
  exact ⟨((15562 + z).fmod 16384).toNat, by omega, by omega⟩
theorem steps_nat (z : Int) : ∃ st f1 : Nat, 3 + (4 + z).fmod 3 = (st : Int) ∧ 3 + (4 + z).fmod 3 + ((4 + z).fdiv 3).fmod 2 = (f1 : Int) ∧ 2 * (3 + (4 + z).fmod 3) + 1 - (3 + (4 + z).fmod 3 + ((4 + z).fdiv 3).fmod 2) = ((2 * st + 1 - f1 : Nat) : Int) ∧ Step3 st ∧ (f1 = st ∨ f1 = st + 1) := by
  have h1 := Int.fmod_nonneg_of_pos (4 + z) (show (0 : Int) < 3 by decide)
  have h2 := Int.fmod_lt_of_pos (4 + z) (show (0 : Int) < 3 by decide)
  have h3 := Int.fmod_nonneg_of_pos ((4 + z).fdiv 3) (show (0 : Int) < 2 by decide)
  have h4 := Int.fmod_lt_of_pos ((4 + z).fdiv 3) (show (0 : Int) < 2 by decide)
  generalize (4 + z).fmod 3 = a at *
  generalize ((4 + z).fdiv 3).fmod 2 = b at *
  refine ⟨(3 + a).toNat, (3 + a + b).toNat, by omega, by omega, by omega, ?_, by omega⟩
  unfold Step3
  omega
theorem steps_elim {P : Prop} (z : Int) (h : ∀ st f1 : Nat, 3 + (4 + z).fmod 3 = (st : Int) → 3 + (4 + z).fmod 3 + ((4 + z).fdiv 3).fmod 2 = (f1 : Int) → 2 * (3 + (4 + z).fmod 3) + 1 - (3 + (4 + z).fmod 3 + ((4 + z).fdiv 3).fmod 2) = ((2 * st + 1 - f1 : Nat) : Int) → Step3 st → (f1 = st ∨ f1 = st + 1) → P) : P := by
  obtain ⟨st, f1, a, b, c, d, e⟩ := steps_nat z
  exact h st f1 a b c d e
theorem frame_start {h₀ h : Heap} {L : Addr} {a b a' b' : Int} {t1 t2 : Tok} {v6 v7 : Option Value} (F : Fr h₀ L h (fun q => if q = Str.ofString "second" then some (.int a t2) else if q = Str.ofString "first" then some (.int b t1) else if q = Str.ofString "way" then v6 else mapOf [(Str.ofString "script", v7)] q)) (ha : a = a') (hb : b = b') :
    Fr h₀ L h (mapOf [(Str.ofString "second", some (.int a' t2)), (Str.ofString "first", some (.int b' t1)), (Str.ofString "way", v6), (Str.ofString "script", v7)]) := by
  subst ha hb
  exact Fr.congr F (fun z => map_cons3 (Str.ofString "second", _) (Str.ofString "first", _) (Str.ofString "way", _) _ z)
set_option maxRecDepth 100000 in
set_option maxHeartbeats 4000000 in
theorem law_spec {w : World} {mean : ExcName → Option Value} {mg mb : Str → Option Value} {dp un : Nat} {fr : Option (List Env)} {gd : Option (List Code)} {s : Shared} {Q E : Value → Shared → Prop} {l : Addr} {vs : List Value} {ns : List Int}
    (X : (hd.heap_1 w.params).In s.heap) (T : Top qv LO mean mg mb s.heap) (hA : dp + 30 < recursionLimit) (hun : un + 100 < cLine) (hl : s.heap.IsList l vs.toArray) (hI : IntsAre vs ns) (hn : ns.length ≤ 63) (hgs : ∀ g ∈ s.gens, g.bare = true)
    (hret : ∀ h' tk' gs', Kp s.heap h' → (∀ g ∈ gs', g.bare = true) → Q (.bool true) { s with heap := h', toks := tk', gens := gs' }) :
    wpAny (model PySem.Challenge.rw_rw0080_01.row.prog w) { handled := none, depth := dp, frames := fr, guards := gd, units := un } (call (.ref 174) [.ref l]) Q E s := by
  revert X; k_fill; intro X
  refine enterC X T (by show dp < _; exact room 0 hA) (by k_is) (by k_is) (BindsTo.of_eq rfl) rfl (by decide +kernel) rfl rfl rfl ?_
  intro L h tk cells F N Y'
  have hvl := hI.length
  k_cells Y'; (try simp only [List.cons_append, List.nil_append] at N); (try dsimp only); (try k_fold)
  replace F := Fr.congr F (m' := mapOf [(Str.ofString "script", some (.ref l))]) (by exact bindL_map _ (List.forall_mem_cons.mpr ⟨rfl, fun _ h => nomatch h⟩) rfl)
  rename_i o1 o2 o3 o4 o5 d1 d2 d3 d4 d5
  refine wpAny_execs_cons ?_
  k_steps
  rename_i h5 F5 N5
  refine Brk.mk ?_
  obtain ⟨k1, hk1⟩ := pick_ints (vs := vs) (ns := ns) hI (lo := some 0) (hi := none) (st := some 2)
  refine LSm.sum_ints F5 N5 rfl (News.isList N5 (by exact List.mem_cons_self ..)) hk1 fun h6 tk6 t6 F6 N6 => ?_
  replace N6 : News s.heap L h6 [(L + 1 + 1 + 1 + 1 + 1, o1), (L + 1 + 1 + 1 + 1, o2), (L + 1 + 1 + 1, o3), (L + 1 + 1, o4), (L + 1, o5)] := (List.forall_mem_cons.mp N6).2
  clear F5 N5 F N hk1
  (try dsimp only at F6 N6)
  (try dsimp only)
  obtain ⟨fl, hfl, hfl2⟩ := flags_nat k1.sum
  k_steps
  rename_i h7 oF F7 N7 dF
  rw [hfl] at dF
  refine Brk.mk ?_
  refine wpAny_execs_cons ?_
  k_steps
  rename_i h8 F8 N8
  refine Brk.mk ?_
  obtain ⟨k2, hk2⟩ := pick_ints (vs := vs) (ns := ns) hI (lo := some 1) (hi := none) (st := some 2)
  refine LSm.sum_ints F8 N8 rfl (News.isList N8 (by exact List.mem_cons_self ..)) hk2 fun h9 tk9 t9 F9 N9 => ?_
  replace N9 : News s.heap L h9 [(L + 1 + 1 + 1 + 1 + 1, o1), (L + 1 + 1 + 1 + 1, o2), (L + 1 + 1 + 1, o3), (L + 1 + 1, o4), (L + 1, oF)] := (List.forall_mem_cons.mp N9).2
  clear F8 N8 hk2 hfl
  (try dsimp only at F9 N9)
  (try dsimp only)
  generalize k1.sum = z1 at *
  generalize k2.sum = z2 at *
  clear hvl hI hl hn
  k_steps
  refine Brk.mk ?_
  refine wpAny_execs_cons ?_
  k_steps
  rename_i h10 h11 oS F11 N11 dS
  refine Brk.mk ?_
  refine wpAny_execs_cons ?_
  k_steps
  refine Brk.mk ?_
  refine wpAny_execs_cons ?_
  k_steps
  rename_i h12 h13 F13 N13
  refine Brk.mk ?_
  refine steps_elim z2 fun st f1 hst hf1 hf3 hst2 hf2 => ?_
  rw [hst] at dS
  have p1 : sinkN f1 fl < 2 ^ 14 := sinkN_lt _ _
  have p2 : sinkN (2 * st + 1 - f1) (sinkN f1 fl) < 2 ^ 14 := sinkN_lt _ _
  have s1 := first_step hst2 hf2
  have s2 := second_step hst2 hf2
  exact pack_spec (s := s) X T hA hun hgs hret hst2 (law_ok hst2 hf2 rfl) hfl2 p1 p2 (fun r H => sunk_eq s1 H) (fun r H => sunk_eq s2 H) (fun r H => (sunk_eq s1 H).trans (olsson hst2 hf2 hfl2)) s1 s2 (fun ns a b => pack_eq s1 hfl2 a b) (fun ns a b => pack_eq s2 p1 a b) d1 d2 d3 dS dF (frame_start F13 hf3 hf1) N13
end
set_option maxRecDepth 100000 in
set_option maxHeartbeats 8000000 in
theorem fin : PySem.Challenge.rw_rw0080_01.Holds := by
  refine hd ⟨hdL, ?_⟩
  k_fill
  intro w s₀ s₁ mg mb G Y fa o pm cd doc dV kV ho hd hcd hD hmg hg args vals as hpre hlay hrd hwl hlo
  have KX : (Mine.hd.heap_1 w.params).In s₁.heap := Y
  have X := (Ground.X G).1
  have V := (Ground.X G).2
  try w_nolog (first | (have GL := glob_more (Ground.glob G (by first | k_qdec | decide +kernel) (by first | k_qdec | decide +kernel)) V) | (have GL := glob_more (Ground.glob G (by decide +kernel)) V))
  refine Ground.open G ?_
  intro T B D TE TW
  have hfa : fa = 174 := by
    have h1 : mg (Str.ofString "law") = some (.ref 174) := mg_of KX T.g (by k_is)
    have h2 : mg (Str.ofString "law") = some (.ref fa) := hmg
    rw [h1] at h2
    exact (Value.ref.inj (Option.some.inj h2)).symm
  subst hfa
  clear ho hd hcd hD hmg
  wrow_args hpre hlay hrd hwl hlo
  rename_i ns _ _ _ _ _ _ _ l vs _ hl _ _ _ hI _ hc1 hc2
  refine law_spec (dp := 1 + claimMargin) (fr := some []) (gd := some []) (un := 4) KX T (by decide +kernel) (by decide +kernel) hl hI (by omega) (by rw [hg]; intro g hm; simp at hm) fun h' tk' gs' kp hb => ?_
  have g : GoodW PySem.Challenge.rw_rw0080_01.row.claim (classAt s₀.heap) (ExcName.means s₀.heap) [ofPy (PyData.list (List.map PyData.int ns))] s₁ (.ok (.ret (.bool true))) { s₁ with heap := h', toks := tk', gens := #[] } :=
    ⟨Or.inl ⟨_, .bool true, [], rfl, fun _ => rfl, .bool true, by with_unfolding_all rfl, fun _ => ⟨.nil, fun _ ha => nomatch ha⟩⟩, kp, rfl, rfl⟩
  have g2 := GoodW.toG g
  exact ⟨g2.1, g2.2.1, g2.2.2.1, hb⟩
end Mine
set_option maxRecDepth 100000 in
set_option maxHeartbeats 8000000 in
theorem PySem.Challenge.cw_rw0080_01_holds : PySem.Challenge.rw_rw0080_01.Holds := by
  exact Mine.fin
