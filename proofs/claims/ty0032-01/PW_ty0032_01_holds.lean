import PyProof.Rows.All
import Wide.All
import OpenK.AllK
import Wide.FinOn
import Lean
import PySem.Challenge.RW_ty0032_01
open PySem PySem.W PyProof.Rows PySem.Calls
set_option Elab.async false
set_option maxRecDepth 100000
set_option maxHeartbeats 8000000
set_option rowWalk.seconds 0
set_option compiler.extract_closed false
namespace Mine
noncomputable abbrev row0 : RowW := OpenRow.toRowW PySem.Challenge.rw_ty0032_01.row
noncomputable abbrev keep0 : List Nat := [1,2,3,9,10,12,14,15,16,17,18,19,20,21,22,23]
noncomputable def vq : Program := view row0.prog keep0
noncomputable abbrev lo : List Str := [Str.ofString "COMPILER_FLAG_NAMES", Str.ofString "bisect_right", Str.ofString "insort_left", Str.ofString "bisect_left"]
section
set_option hygiene false in
local macro_rules | `(tactic| o_head $H) => `(tactic| (
   refine holds_open (q := vq) (loose := lo) (Xt := fun s => xlAt vq [] s && recOk (RowW.records row0) s) (XP := XL vq []) (Yf := Hook.obs $H) (Ya := Hook.val $H) (YP := Hook.says $H) (N := 2208) ?hl (Hook.of $H) (Hook.keeps $H) (fun s e => xl_of s (Bool.and_eq_true_iff.mp e).1) XL.keeps (by rfl) (by rfl) (by rfl) (fun s e => recFacts_of (Bool.and_eq_true_iff.mp e).2) (by rfl) (by first | assumption | decide +kernel) (by decide +kernel) ⟨rfl, rfl, rfl, rfl, rfl, by decide +kernel⟩ ?hw ?hc
   (case hl => (show LeftO PySem.Challenge.pw_ty0032_01 (view PySem.Challenge.pw_ty0032_01 keep0) _ _ _ _ _ _; refine LeftO.of_split "special-get-raises" ?_; intro w; delta fencedOpening topFrom; rw [Fast.te10274390034422433532, Fast.te14364793385576792824, Fast.te1435165496053646825, Fast.te14289696077712309145, Fast.te14082659384304107361, Fast.te4187177175401517315, Fast.te6010157257318498051]; kernel_rfl))))
open_top hd for PySem.Challenge.rw_ty0032_01
end


theorem lim0 {a n R : Nat} (h : a + n < R) : a < R := Nat.lt_of_le_of_lt (Nat.le_add_right a n) h
theorem lim1 {a n k R : Nat} (h : a + n < R) (e : Nat.ble k n = true) : a + k < R := Nat.lt_of_le_of_lt (Nat.add_le_add_left (Nat.le_of_ble_eq_true e) a) h
theorem lim2 {a n j k R : Nat} (h : a + n < R) (e : Nat.ble (j + k) n = true) : a + j + k < R := by rw [Nat.add_assoc]; exact lim1 h e
theorem lim3 {a n i j k R : Nat} (h : a + n < R) (e : Nat.ble (i + j + k) n = true) : a + i + j + k < R := by rw [Nat.add_assoc, Nat.add_assoc]; exact lim1 h (by rw [← Nat.add_assoc]; exact e)
theorem lt_s {a b : Nat} (h : a < b) : a < b + 1 := Nat.lt_succ_of_lt h
theorem lt_p {a b : Nat} (h : a + 1 < b) : a < b := Nat.lt_of_succ_lt h
theorem lt_t2 {a b c : Nat} (h : a < b) (i : b < c) : a < c := Nat.lt_trans h i
theorem lt_t3 {a b c d : Nat} (h : a < b) (i : b < c) (j : c < d) : a < d := Nat.lt_trans h (Nat.lt_trans i j)
theorem lt_t4 {a b c d e : Nat} (h : a < b) (i : b < c) (j : c < d) (k : d < e) : a < e := Nat.lt_trans h (lt_t3 i j k)
theorem lt_t5 {a b c d e f : Nat} (h : a < b) (i : b < c) (j : c < d) (k : d < e) (l : e < f) : a < f := Nat.lt_trans h (lt_t4 i j k l)
theorem lt_t6 {a b c d e f g : Nat} (h : a < b) (i : b < c) (j : c < d) (k : d < e) (l : e < f) (m : f < g) : a < g := Nat.lt_trans h (lt_t5 i j k l m)
theorem lt_t7 {a b c d e f g i : Nat} (h : a < b) (i1 : b < c) (j : c < d) (k : d < e) (l : e < f) (m : f < g) (n : g < i) : a < i := Nat.lt_trans h (lt_t6 i1 j k l m n)
theorem ne_l {a b : Nat} (h : a < b) : a ≠ b := Nat.ne_of_lt h
theorem ne_g {a b : Nat} (h : b < a) : a ≠ b := Nat.ne_of_gt h
theorem ne_add {a i j : Nat} (h : Nat.beq i j = false) : a + i ≠ a + j := fun e => Nat.ne_of_beq_eq_false h (Nat.add_left_cancel e)
theorem ne_up1 {a i : Nat} : a ≠ a + (i + 1) := Nat.ne_of_lt (Nat.lt_add_of_pos_right (Nat.succ_pos i))
theorem lt_up2 {a : Nat} : a < a + 1 + 1 := Nat.lt_succ_of_lt (Nat.lt_succ_self a)
theorem lt_up3 {a : Nat} : a < a + 1 + 1 + 1 := Nat.lt_succ_of_lt lt_up2
theorem lt_up4 {a : Nat} : a < a + 1 + 1 + 1 + 1 := Nat.lt_succ_of_lt lt_up3

/-- every object of h off S stands in h' as it stood -/
noncomputable def Kept (h h' : Heap) (S : List Addr) : Prop := ∀ b o, h.get? b = some o → b ∉ S → h'.get? b = some o

theorem fr_kept {h₀ h h' : Heap} {L : Addr} {m : Str → Option Value} {S : List Addr} (F : Fr h₀ L h m) (k : Kept h h' S) (hL : L ∉ S) (hS : ∀ b ∈ S, h₀.get? b = none) : Fr h₀ L h' m :=
  ⟨F.ns.at' fun o e => k _ o e hL, fun b o e => k b o (F.keep b o e) (fun hb => by rw [hS b hb] at e; cases e), F.above⟩
theorem news_kept {h₀ h h' : Heap} {L : Addr} {S : List Addr} {l : List (Addr × Obj)} (N : News h₀ L h l) (k : Kept h h' S) (hl : ∀ p ∈ l, p.1 ∉ S) : News h₀ L h' l :=
  fun p hp => ⟨k _ _ (N p hp).1 (hl p hp), (N p hp).2⟩
theorem news_sub {h₀ h : Heap} {L : Addr} {l l' : List (Addr × Obj)} (N : News h₀ L h l) (hs : ∀ p ∈ l', p ∈ l) : News h₀ L h l' := fun p hp => N p (hs p hp)

theorem ints_cons {vs : List Value} {n : Int} {ns : List Int} (h : IntsAre vs (n :: ns)) : ∃ t vs', vs = .int n t :: vs' ∧ IntsAre vs' ns := by
  cases h with
  | cons _ t h => exact ⟨t, _, rfl, h⟩
theorem ints_nil {vs : List Value} (h : IntsAre vs []) : vs = [] := by cases h; rfl
/-- a call's surroundings with nothing handled -/
noncomputable abbrev arA (dp un : Nat) (fs : Option (List Env)) (gd : Option (List Code)) : Around := { handled := none, depth := dp, frames := fs, guards := gd, units := un }
theorem ret_int {Q : Value → Shared → Prop} {a b : Int} {t : Tok} {s : Shared} (e : a = b) (h : Q (.int a t) s) : Q (.int b t) s := e ▸ h
theorem kept_nil {g s h : Heap} (k : ∀ h', (∀ b o, g.get? b = some o → h'.get? b = some o) → Kept s h' []) {L : Addr} {m : Str → Option Value} (F : Fr g L h m) : Kept s h [] := k h F.keep
/-- a place where the walk halts for a lemma of my own -/
noncomputable def Halt (P : Prop) : Prop := P
theorem halt {P : Prop} (h : Halt P) : P := h
theorem go {P : Prop} (h : P) : Halt P := h
theorem haltNP {a b c d P} (_ : NewPlain a b c d) (h : Halt P) : P := h

/-- the frame's map at some names -/
noncomputable def Knows (m : Str → Option Value) : List (Str × Value) → Prop
  | [] => True
  | (x, v) :: r => m x = some v ∧ Knows m r
noncomputable def knowMap : List (Str × Value) → (Str → Option Value) → Str → Option Value
  | [], m, y => m y
  | (x, v) :: r, m, y => if y = x then some v else knowMap r m y
theorem knowMap_eq {m : Str → Option Value} : ∀ {l : List (Str × Value)}, Knows m l → knowMap l m = m
  | [], _ => by funext y; rfl
  | (x, v) :: r, k => by
    funext y
    show (if y = x then some v else knowMap r m y) = m y
    rw [knowMap_eq k.2]
    by_cases h : y = x
    · rw [if_pos h, h, k.1]
    · rw [if_neg h]
theorem fr_knows {h₀ h : Heap} {L : Addr} {m : Str → Option Value} {l : List (Str × Value)} (k : Knows m l) (F : Fr h₀ L h m) : Fr h₀ L h (knowMap l m) := by rw [knowMap_eq k]; exact F

theorem fr_kept0 {h₀ h h' : Heap} {L : Addr} {m : Str → Option Value} (F : Fr h₀ L h m) (k : Kept h h' []) : Fr h₀ L h' m := fr_kept F k (by simp) (by simp)
theorem news_kept0 {h₀ h h' : Heap} {L : Addr} {l : List (Addr × Obj)} (N : News h₀ L h l) (k : Kept h h' []) : News h₀ L h' l := news_kept N k (by simp)
theorem hn_of {h₀ h : Heap} {L : Addr} {all l : List (Addr × Obj)} (N : News h₀ L h all) (hs : ∀ q ∈ l, q ∈ all) : ∀ q ∈ l, h.get? q.1 = some q.2 ∧ h₀.get? q.1 = none := fun q hq => ⟨(N q (hs q hq)).1, (N q (hs q hq)).2.2⟩
/-- a call that read its ledger alone -/
theorem kept_ro {g h h' : Heap} {L : Addr} {m : Str → Option Value} {news : List (Addr × Obj)} {P : Addr × Obj → Prop} (kp : ∀ h', (∀ b o, g.get? b = some o → h'.get? b = some o) → Kept h h' (news.map (·.1))) (F : Fr g L h' m) (N : News g L h' news)
    (hn : ∀ q ∈ news, h.get? q.1 = some q.2 ∧ P q) : Kept h h' [] := fun b o hb _ => by
  by_cases hm : b ∈ news.map (·.1)
  · obtain ⟨q, hq, rfl⟩ := List.mem_map.mp hm
    rw [(hn q hq).1] at hb
    cases hb
    exact (N q hq).1
  · exact kp _ F.keep b o hb hm
/-- one object of the ledger is turned by a call, all else is kept -/
theorem fr_kept1 {h₀ h h' : Heap} {L D : Addr} {m : Str → Option Value} {all : List (Addr × Obj)} {o : Obj} (F : Fr h₀ L h m) (N : News h₀ L h all) (hm : (D, o) ∈ all) (k : Kept h h' [D]) : Fr h₀ L h' m :=
  fr_kept F k (fun q => (N _ hm).2.1 (List.mem_singleton.mp q).symm) (fun b hb => by rw [List.mem_singleton.mp hb]; exact (N _ hm).2.2)
theorem news_kept1 {h₀ h h' : Heap} {L D : Addr} {o o' : Obj} {all all' : List (Addr × Obj)} (N : News h₀ L h all) (U : Upd D o o' all all') (k : Kept h h' [D]) (e : h'.get? D = some o') : News h₀ L h' all' := by
  obtain ⟨pre, post, rfl, rfl, a, b⟩ := U.split
  intro q hq
  rcases List.mem_append.mp hq with hq | hq
  · have z := N q (List.mem_append_left _ hq)
    exact ⟨k _ _ z.1 (by simpa using a q hq), z.2⟩
  · rcases List.mem_cons.mp hq with rfl | hq
    · exact ⟨e, (N (D, o) (List.mem_append_right _ (.head _))).2⟩
    · have z := N q (List.mem_append_right _ (.tail _ hq))
      exact ⟨k _ _ z.1 (by simpa using b q hq), z.2⟩

section
variable {prog : Program} {w : World} {A : Around} {s : Shared} {h₀ : Heap} {K : Frag} {p : Program} {loose : List Str} {mean : ExcName → Option Value} {mg mb : Str → Option Value}
  {R : Result → Shared → Prop} {name qual : Str} {params : Arguments} {body : List Stmt} {scope : Scope} {dV kV doc pm cdv ct oc : Value} {an od : Option Addr} {osl : Array (Option Value)} {f : Addr} {args : Args} {binds : List (Str × Value)}

/-- a def of the top is entered; what it may turn is named (news), all else is its base -/
theorem enterP (news : List (Addr × Obj)) (hroom : A.depth < recursionLimit) (X₀ : K.In h₀) (T : Top p loose mean mg mb h₀) (st : h₀.StaysIn s.heap) (hn : ∀ q ∈ news, s.heap.get? q.1 = some q.2 ∧ h₀.get? q.1 = none)
    (ho : K.lookup f = some ⟨oc, od, .func (fnOf name qual params body scope dV kV doc pm an cdv ct), osl⟩) (hcd : codeIn K cdv qual = true)
    (hbind : BindsTo s (fnOf name qual params body scope dV kV doc pm an cdv ct) args binds) (hloc : ∀ y ∈ binds, scope.names.lookup y.1 = some .local)
    (h : ∀ g L' h₁ tk, Fr g L' h₁ (fun y => binds.reverse.lookup y) → News g L' h₁ news → K.In g → Top p loose mean mg mb g → (∀ q ∈ news, q.1 < L') →
      (∀ h', (∀ b o, g.get? b = some o → h'.get? b = some o) → Kept s.heap h' (news.map (·.1))) → (∀ D, (∀ q ∈ news, q.1 < D) → g.get? D = none → s.heap.get? D = none) → h₀.StaysIn g →
      wpAny (model prog w) (A.deeper (envOf qual scope L' f cdv)) (execs body (envOf qual scope L' f cdv))
        (fun fl s' => R (.ok (.ret (match fl with | .ret v => v | _ => .none))) s') (fun _ _ => False)
        { s with heap := h₁, toks := tk })
    (hco : scope.isCoroutine = false) (hgen : scope.isGenerator = false) (hk : scope.kind = .function)
    (hcell : ∀ x ∈ scope.names, x.2 ≠ .cell) : codeAny (model prog w) A (.call (.ref f) args) R s := by
  have nm : ∀ b o, h₀.get? b = some o → b ∉ news.map (·.1) := fun b o e q => by
    obtain ⟨q', hq, rfl⟩ := List.mem_map.mp q
    rw [(hn q' hq).2] at e; cases e
  have stg : h₀.StaysIn (hideAll s.heap (news.map (·.1))) := fun b o e => hideAll_get _ (st b o e) (nm b o e)
  have XK : K.In (hideAll s.heap (news.map (·.1))) := X₀.keeps stg
  have TK : Top p loose mean mg mb (hideAll s.heap (news.map (·.1))) := T.keeps stg
  refine codeAny_call_def (fd := fnOf name qual params body scope dV kV doc pm an cdv ct) (body := body) (binds := binds) hroom (st _ _ (X₀ _ _ ho)) rfl (T.nolimit.keeps st) (codeRec_of (X₀.keeps st) hcd) rfl hbind hcell hloc (fun h₁ hns hk₁ => ?_) hco hgen hk
  refine wpAny_mono (h (hideAll s.heap (news.map (·.1))) s.heap.objs.size h₁ _ ⟨hns, fun b o e => hk₁ b o (of_hideAll _ e), Nat.le_of_eq (hideAll_size _ _)⟩
    (fun q hq => ⟨hk₁ _ _ (hn q hq).1, Nat.ne_of_lt (Heap.lt_size (hn q hq).1), hideAll_none _ (List.mem_map_of_mem hq)⟩) XK TK (fun q hq => Heap.lt_size (hn q hq).1)
    (fun h' k b o e hb => k b o (hideAll_get _ e hb)) (fun D hD e => ?_) stg) (fun _ _ x => x) (fun _ _ x => x.elim)
  cases q : s.heap.get? D with
  | none => rfl
  | some o =>
    rw [hideAll_get _ q (fun hm => by
      obtain ⟨q', hq, e'⟩ := List.mem_map.mp hm
      exact absurd (hD q' hq) (by rw [e']; exact Nat.lt_irrefl _))] at e
    cases e
end

section
variable {prog : Program} {w : World} {A : Around} {s : Shared} {h₀ : Heap} {K : Frag} {p : Program} {loose : List Str} {mean : ExcName → Option Value} {mg mb : Str → Option Value}
  {R : Result → Shared → Prop} {name qual : Str} {params : Arguments} {body : List Stmt} {scope : Scope} {dV kV doc pm cdv ct oc : Value} {an od : Option Addr} {osl : Array (Option Value)} {f : Addr} {args : Args} {binds : List (Str × Value)}
theorem hidden_none {h : Heap} {l : List (Addr × Obj)} {D : Addr} (hD : ∀ q ∈ l, q.1 < D) (e : (hideAll h (l.map (·.1))).get? D = none) : h.get? D = none := by
  cases q : h.get? D with
  | none => rfl
  | some o =>
    rw [hideAll_get _ q (fun hm => by
      obtain ⟨q', hq, e'⟩ := List.mem_map.mp hm
      exact absurd (hD q' hq) (by rw [e']; exact Nat.lt_irrefl _))] at e
    cases e
/-- enterP for a def whose locals are captured -/
theorem enterC (news : List (Addr × Obj)) (hroom : A.depth < recursionLimit) (X₀ : K.In h₀) (T : Top p loose mean mg mb h₀) (st : h₀.StaysIn s.heap) (hn : ∀ q ∈ news, s.heap.get? q.1 = some q.2 ∧ h₀.get? q.1 = none)
    (ho : K.lookup f = some ⟨oc, od, .func (fnOf name qual params body scope dV kV doc pm an cdv ct), osl⟩) (hcd : codeIn K cdv qual = true)
    (hbind : BindsTo s (fnOf name qual params body scope dV kV doc pm an cdv ct) args binds) (hkind : (binds.all fun y => scope.names.lookup y.1 == some .local || scope.names.lookup y.1 == some .cell) = true)
    (h : ∀ g L' h₁ tk cells, Fr g L' h₁ (bindL (envOfC qual scope L' f cdv).kindOf binds fun _ => none) → News g L' h₁ (cells ++ news) →
      CellsAre (bindC (envOfC qual scope L' f cdv).kindOf binds fun _ => none) (cellsFrom (L' + 1) scope.names []) cells → K.In g → Top p loose mean mg mb g → (∀ q ∈ news, q.1 < L') →
      (∀ h', (∀ b o, g.get? b = some o → h'.get? b = some o) → Kept s.heap h' (news.map (·.1))) → (∀ D, (∀ q ∈ news, q.1 < D) → g.get? D = none → s.heap.get? D = none) → h₀.StaysIn g →
      wpAny (model prog w) (A.deeper (envOfC qual scope L' f cdv)) (execs body (envOfC qual scope L' f cdv))
        (fun fl s' => R (.ok (.ret (match fl with | .ret v => v | _ => .none))) s') (fun _ _ => False)
        { s with heap := h₁, toks := tk })
    (hnd : ((cellsFrom 0 scope.names []).map (·.1)).Nodup)
    (hco : scope.isCoroutine = false) (hgen : scope.isGenerator = false) (hk : scope.kind = .function) : codeAny (model prog w) A (.call (.ref f) args) R s := by
  have nm : ∀ b o, h₀.get? b = some o → b ∉ news.map (·.1) := fun b o e q => by
    obtain ⟨q', hq, rfl⟩ := List.mem_map.mp q
    rw [(hn q' hq).2] at e; cases e
  have stg : h₀.StaysIn (hideAll s.heap (news.map (·.1))) := fun b o e => hideAll_get _ (st b o e) (nm b o e)
  have XK : K.In (hideAll s.heap (news.map (·.1))) := X₀.keeps stg
  have TK : Top p loose mean mg mb (hideAll s.heap (news.map (·.1))) := T.keeps stg
  refine codeAny_call_function hroom (st _ _ (X₀ _ _ ho)) rfl hco hgen rfl (codeRec_of (X₀.keeps st) hcd) (hbind _ _ _ _ ?_)
  refine wpAny_newFunctionEnv_cells hk (kindsX hkind _) fun env he s₁ x => ?_
  subst he
  refine ⟨(T.nolimit.keeps st).keeps x.toInCall.keep, codeAny_func ?_⟩
  obtain ⟨h₁, tk, rfl, _⟩ := x.done
  have hk₁ := x.toInCall.keep
  obtain ⟨cells, NC, Y⟩ := Cl.news (h₀ := s.heap) (Nat.le_refl _) fun n c hm => ⟨x.cell n c (lookup_of_mem_nodup (cellsFrom_names scope.names 0 (s.heap.objs.size + 1) [] [] rfl ▸ hnd) hm), x.above n c hm⟩
  refine wpAny_mono (h (hideAll s.heap (news.map (·.1))) s.heap.objs.size h₁ tk cells ⟨x.toInCall.ns, fun b o e => hk₁ b o (of_hideAll _ e), Nat.le_of_eq (hideAll_size _ _)⟩ (fun q hq => ?_) Y XK TK (fun q hq => Heap.lt_size (hn q hq).1)
    (fun h' k b o e hb => k b o (hideAll_get _ e hb)) (fun D hD e => hidden_none hD e) stg) (fun _ _ x => x) (fun _ _ x => x.elim)
  rcases List.mem_append.mp hq with hq | hq
  · refine ⟨(NC q hq).1, (NC q hq).2.1, ?_⟩
    cases e : (hideAll s.heap (news.map (·.1))).get? q.1 with
    | none => rfl
    | some o => have := of_hideAll _ e; rw [(NC q hq).2.2] at this; cases this
  · exact ⟨hk₁ _ _ (hn q hq).1, Nat.ne_of_lt (Heap.lt_size (hn q hq).1), hideAll_none _ (List.mem_map_of_mem hq)⟩
end

section
variable {prog : Program} {w : World} {A : Around} {s : Shared} {h₀ : Heap} {K : Frag} {p : Program} {loose : List Str} {mean : ExcName → Option Value} {mg mb : Str → Option Value}
  {R : Result → Shared → Prop} {name qual : Str} {params : Arguments} {body : PySem.Expr} {scope : Scope} {cl : List (Str × Addr)} {pm ctv : Value} {c' f : Addr} {oc : Obj} {vs : Array Value} {t : Tok} {args : Args} {binds : List (Str × Value)}
/-- enterP for a lambda of the ledger -/
theorem enterL (news : List (Addr × Obj)) (hroom : A.depth < recursionLimit) (X₀ : K.In h₀) (T : Top p loose mean mg mb h₀) (st : h₀.StaysIn s.heap) (hn : ∀ q ∈ news, s.heap.get? q.1 = some q.2 ∧ h₀.get? q.1 = none)
    (ho : (f, kla_obj name qual params body scope cl pm c' ctv) ∈ news) (hoc : (c', oc) ∈ news) (hcd : oc.data = .fields vs) (hcv : vs[1]? = some (.str qual t))
    (hbind : bindArgs (kla_fn name qual params body scope cl pm (.ref c') ctv) args = pure binds) (hloc : ∀ y ∈ binds, scope.names.lookup y.1 = some .local)
    (h : ∀ g L' h₁ tk, Fr g L' h₁ (fun y => binds.reverse.lookup y) → News g L' h₁ news → K.In g → Top p loose mean mg mb g → (∀ q ∈ news, q.1 < L') →
      (∀ h', (∀ b o, g.get? b = some o → h'.get? b = some o) → Kept s.heap h' (news.map (·.1))) → h₀.StaysIn g →
      wpAny (model prog w) (A.deeper (envX qual scope L' f (.ref c') cl)) (eval body (envX qual scope L' f (.ref c') cl))
        (fun v s' => R (.ok (.ret v)) s') (fun _ _ => False) { s with heap := h₁, toks := tk })
    (hco : scope.isCoroutine = false) (hgen : scope.isGenerator = false) (hk : scope.kind = .function) (hcell : ∀ x ∈ scope.names, x.2 ≠ .cell) : codeAny (model prog w) A (.call (.ref f) args) R s := by
  have nm : ∀ b o, h₀.get? b = some o → b ∉ news.map (·.1) := fun b o e q => by
    obtain ⟨q', hq, rfl⟩ := List.mem_map.mp q
    rw [(hn q' hq).2] at e; cases e
  have stg : h₀.StaysIn (hideAll s.heap (news.map (·.1))) := fun b o e => hideAll_get _ (st b o e) (nm b o e)
  have XK : K.In (hideAll s.heap (news.map (·.1))) := X₀.keeps stg
  have TK : Top p loose mean mg mb (hideAll s.heap (news.map (·.1))) := T.keeps stg
  refine kla_callFunE hroom (hn _ ho).1 rfl hco hgen rfl ⟨_, _, _, _, rfl, (hn _ hoc).1, hcd, hcv⟩ ?_
  rw [hbind]
  refine wpAny_pure (wpAny_newFunctionEnv hcell hloc (fun h₁ hns hsb => ⟨(T.nolimit.keeps st).fresh _ hsb, ?_⟩) hk)
  show codeAny _ _ (.expr body (envX qual scope s.heap.objs.size f (.ref c') cl)) _ _
  have hk₁ : ∀ b o, s.heap.get? b = some o → h₁.get? b = some o := fun b o e => hsb.extBut b o (Nat.ne_of_lt (Heap.lt_size e)) (Heap.get?_push_of_some _ e)
  exact kla_codeExpr (wpAny_mono (h (hideAll s.heap (news.map (·.1))) s.heap.objs.size h₁ _ ⟨hns, fun b o e => hk₁ b o (of_hideAll _ e), Nat.le_of_eq (hideAll_size _ _)⟩
    (fun q hq => ⟨hk₁ _ _ (hn q hq).1, Nat.ne_of_lt (Heap.lt_size (hn q hq).1), hideAll_none _ (List.mem_map_of_mem hq)⟩) XK TK (fun q hq => Heap.lt_size (hn q hq).1)
    (fun h' k b o e hb => k b o (hideAll_get _ e hb)) stg) (fun _ _ x => x) fun _ _ x => x.elim)
end

section
variable {M : Model} {A : Around} {E : Value → Shared → Prop} {s : Shared} {env : Env} {pos : Pos} {first : List Value} {Q : Value → Shared → Prop}
/-- a function object is called by a display of plain arguments -/
theorem callWith_F {h₀ : Heap} {fn : Addr} {fo : Obj} {fd : FuncData} {e : PySem.Expr} {rest : List PySem.Expr} (_ho : h₀.get? fn = some fo) (hd : fo.data = .func fd)
    (h : wpAny M A (spliced (backTo pos (starEach (e :: rest) env))) (fun vs s₁ => s₁.heap.get? fn = some fo ∧ wpAny M A (call (.ref fn) (first ++ vs)) Q E s₁) E s)
    (he : starEach (e :: rest) env = (false, eval e env) :: starEach rest env := by rfl) (hplain : (backTo pos (starEach rest env)).any (·.1) = false := by rfl) :
    wpAny M A (callWith pos (.ref fn) first (backTo pos (starEach (e :: rest) env)) []) Q E s := by
  rw [he] at h ⊢
  refine callWith_of (P := fun h => h.get? fn = some fo) (by show ((false || (backTo pos (starEach rest env)).any (·.1)) || false) = false; rw [hplain]; rfl) (fun hh hf => ⟨.frame, .inl rfl, ?_⟩) (evalArgs_plain h)
  obtain ⟨c, d, da, sl⟩ := fo
  cases hd
  exact (Looks.ld (part := none) hf).andThen .now
end

section
variable {prog : Program} {w : World} {A : Around} {E : Value → Shared → Prop} {s : Shared} {env : Env} {test : PySem.Expr} {body : List Stmt} {Q : Flow → Shared → Prop} {g : Heap} {L : Addr}

/-- a turn's end: the word holds at a lesser measure -/
noncomputable def WEnd (g : Heap) (L : Addr) (s : Shared) (J : Nat → (Str → Option Value) → List (Addr × Obj) → Prop) (k : Nat) (s₂ : Shared) : Prop :=
  ∃ k' h tk m news, k' < k ∧ s₂ = { s with heap := h, toks := tk } ∧ Fr g L h m ∧ News g L h news ∧ J k' m news
noncomputable def WPost (g : Heap) (L : Addr) (s : Shared) (J : Nat → (Str → Option Value) → List (Addr × Obj) → Prop) (k : Nat) (Q : Flow → Shared → Prop) (f : Flow) (s₂ : Shared) : Prop :=
  match f with
  | .ret v => Q (.ret v) s₂
  | .brk => Q .next s₂
  | _ => WEnd g L s J k s₂
theorem wEnd {J : Nat → (Str → Option Value) → List (Addr × Obj) → Prop} {k : Nat} {h : Heap} {tk : Nat} {m : Str → Option Value} {news : List (Addr × Obj)} (F : Fr g L h m) (N : News g L h news) (k' : Nat) (hk : k' < k) (j : J k' m news) :
    WPost g L s J k Q .next { s with heap := h, toks := tk } := ⟨k', h, tk, m, news, hk, rfl, F, N, j⟩

theorem while_J (J : Nat → (Str → Option Value) → List (Addr × Obj) → Prop) {pos : Pos} {k : Nat} {m : Str → Option Value} {news : List (Addr × Obj)} (F : Fr g L s.heap m) (N : News g L s.heap news) (j : J k m news)
    (turn : ∀ k m news h tk, J k m news → Fr g L h m → News g L h news →
      wpAny (model prog w) A (isTrue test env (eval test env)) (fun b s₂ => if b = true then wpAny (model prog w) A (execs body env) (WPost g L s J k Q) E s₂ else Q .next s₂) E { s with heap := h, toks := tk })
    (hE : PassesOwn (model prog w) A env E) : wpAny (model prog w) A (exec (.While test body [] pos) env) Q E s := by
  refine whl_start 0 ?_
  have main : ∀ n, ∀ k, k ≤ n → ∀ m news h tk, Fr g L h m → News g L h news → J k m news → WhlRest prog w A E env test body [] Q (n + 1) { s with heap := h, toks := tk } := by
    intro n
    induction n with
    | zero =>
      intro k hk m news h tk F N j
      refine whl_turn hE (wpAny_mono (turn k m news h tk j F N) (fun b s₂ hb => ?_) fun _ _ e => e)
      cases b with
      | false => exact WhlIf.no rfl (wpAny_execs_nil (by simpa using hb))
      | true =>
        refine WhlIf.yes rfl (wpAny_mono (by simpa using hb) (fun f s₃ hf => ?_) fun _ _ e => e)
        cases f with
        | ret v => exact hf
        | brk => exact hf
        | next => obtain ⟨k', _, _, _, _, hlt, _⟩ := hf; exact absurd hlt (by omega)
        | cont => obtain ⟨k', _, _, _, _, hlt, _⟩ := hf; exact absurd hlt (by omega)
    | succ n ih =>
      intro k hk m news h tk F N j
      refine whl_turn hE (wpAny_mono (turn k m news h tk j F N) (fun b s₂ hb => ?_) fun _ _ e => e)
      cases b with
      | false => exact WhlIf.no rfl (wpAny_execs_nil (by simpa using hb))
      | true =>
        refine WhlIf.yes rfl (wpAny_mono (by simpa using hb) (fun f s₃ hf => ?_) fun _ _ e => e)
        cases f with
        | ret v => exact hf
        | brk => exact hf
        | next => obtain ⟨k', h', tk', m', news', hlt, rfl, F', N', j'⟩ := hf; exact ih k' (by omega) m' news' h' tk' F' N' j'
        | cont => obtain ⟨k', h', tk', m', news', hlt, rfl, F', N', j'⟩ := hf; exact ih k' (by omega) m' news' h' tk' F' N' j'
  exact main k k (Nat.le_refl _) m news s.heap s.toks F N j
end
section
variable {prog : Program} {w : World} {A : Around} {E : Value → Shared → Prop} {env : Env} {s s1 s2 s3 : Shared} {h₀ : Heap} {L : Addr} {m : Str → Option Value} {v a b c : Value}
/-- an expression that comes to v and leaves s' behind, whatever follows -/
noncomputable def Ev (prog : Program) (w : World) (A : Around) (E : Value → Shared → Prop) (env : Env) (e : Expr) (s : Shared) (v : Value) (s' : Shared) : Prop := ∀ Q : Value → Shared → Prop, Q v s' → wpAny (model prog w) A (eval e env) Q E s
theorem ev_use {e : Expr} {Q : Value → Shared → Prop} (h : Ev prog w A E env e s v s1) (k : Q v s1) : wpAny (model prog w) A (eval e env) Q E s := h Q k
theorem ev_int {i : Int} {kk : Nat} {pos : Pos} : Ev prog w A E env (.Constant (.int i) kk pos) s (.int i s.toks) { s with toks := s.toks + 1 } := fun _ h => wpAny_Constant_int h
theorem ev_name {x : Str} {pos : Pos} {cn : Str} {cs : Scope} {f : Addr} {ccd : Value} {cl : List (Str × Addr)} (F : Fr h₀ L s.heap m) (hv : m x = some v)
    (hk : cs.kind = .function) (hx : (envX cn cs L f ccd cl).kindOf x = some .local) (hd : (x == ("__debug__" : Str)) = false) :
    Ev prog w A E (envX cn cs L f ccd cl) (.Name x pos) s v s := fun _ h => nameX_L F hv h hk hx hd
theorem ev_bin {l r : Expr} {op : Operator} {pos : Pos} (h1 : Ev prog w A E env l s a s1) (h2 : Ev prog w A E env r s1 b s2) (h3 : ∀ Q : Value → Shared → Prop, Q c s3 → wpAny (model prog w) A (binaryOp op a b) Q E s2) :
    Ev prog w A E env (.BinOp l op r pos) s c s3 := fun Q k => wpAny_BinOp (h1 _ (h2 _ (h3 Q k)))
theorem ev_cmp {l r : Expr} {op : CmpOp} {pos : Pos} {whole : Sem Value} {Q : Bool → Shared → Prop} (h1 : Ev prog w A E env l s a s1) (h2 : Ev prog w A E env r s1 b s2) (h3 : ∀ Q : Value → Shared → Prop, Q c s3 → wpAny (model prog w) A (compareOp op a b) Q E s2)
    (hm : behindInMarks op r = false) (k : wpAny (model prog w) A (truthy c) Q E s3) : wpAny (model prog w) A (PySem.isTrue (.Compare l [op] [r] pos) env whole) Q E s := wpAny_isTrue_Compare1 (h1 _ (h2 _ (h3 _ k))) hm
end
section
variable {M : Model} {A : Around} {E : Value → Shared → Prop} {s : Shared} {env : Env} {st : Stmt} {rest : List Stmt} {Q Qs : Flow → Shared → Prop}
/-- what a statement's end may lean on: the rest of the body, or the way out; the walk of the statement sees Qs alone -/
structure Hide (M : Model) (A : Around) (rest : List Stmt) (env : Env) (Q : Flow → Shared → Prop) (E : Value → Shared → Prop) (Qs : Flow → Shared → Prop) : Prop where
  next : ∀ s', wpAny M A (execs rest env) Q E s' → Qs .next s'
  ret : ∀ v s', Q (.ret v) s' → Qs (.ret v) s'
  brk : ∀ s', Q .brk s' → Qs .brk s'
  cont : ∀ s', Q .cont s' → Qs .cont s'
theorem hide_cons (h : ∀ Qs, Hide M A rest env Q E Qs → wpAny M A (exec st env) Qs E s) : wpAny M A (execs (st :: rest) env) Q E s :=
  wpAny_execs_cons (h _ ⟨fun _ x => x, fun _ _ x => x, fun _ x => x, fun _ x => x⟩)
theorem Hide.nx {s' : Shared} (h : Hide M A rest env Q E Qs) (k : wpAny M A (execs rest env) Q E s') : Qs .next s' := h.next _ k
theorem Hide.rt {v : Value} {s' : Shared} (h : Hide M A rest env Q E Qs) (k : Q (.ret v) s') : Qs (.ret v) s' := h.ret _ _ k
theorem Hide.bk {s' : Shared} (h : Hide M A rest env Q E Qs) (k : Q .brk s') : Qs .brk s' := h.brk _ k
theorem Hide.ct {s' : Shared} (h : Hide M A rest env Q E Qs) (k : Q .cont s') : Qs .cont s' := h.cont _ k
end
section
variable {M : Model} {A : Around} {E : Value → Shared → Prop} {s s₀ s' : Shared} {env : Env} {body : List Stmt} {Q Qs : Flow → Shared → Prop} {g : Heap} {L : Addr} {J : Nat → (Str → Option Value) → List (Addr × Obj) → Prop} {k : Nat} {v : Value}
structure HideW (g : Heap) (L : Addr) (s₀ : Shared) (J : Nat → (Str → Option Value) → List (Addr × Obj) → Prop) (k : Nat) (Q Qs : Flow → Shared → Prop) : Prop where
  all : ∀ f s', WPost g L s₀ J k Q f s' → Qs f s'
theorem hide_W (h : ∀ Qs, HideW g L s₀ J k Q Qs → wpAny M A (execs body env) Qs E s) : wpAny M A (execs body env) (WPost g L s₀ J k Q) E s := h _ ⟨fun _ _ x => x⟩
theorem HideW.nx (h : HideW g L s₀ J k Q Qs) (x : WPost g L s₀ J k Q .next s') : Qs .next s' := h.all _ _ x
theorem HideW.ct (h : HideW g L s₀ J k Q Qs) (x : WPost g L s₀ J k Q .cont s') : Qs .cont s' := h.all _ _ x
theorem HideW.rt (h : HideW g L s₀ J k Q Qs) (x : Q (.ret v) s') : Qs (.ret v) s' := h.all _ _ x
theorem HideW.bk (h : HideW g L s₀ J k Q Qs) (x : Q .next s') : Qs .brk s' := h.all _ _ x
end
theorem hideP {G : Prop} (h : ∀ P : Prop, (G → P) → P) : G := h G id
theorem all_cons {α : Type} {P : α → Prop} {a : α} {l : List α} (h : P a) (t : ∀ q, q ∈ l → P q) : ∀ q, q ∈ a :: l → P q := fun q hq => by
  rcases List.mem_cons.mp hq with rfl | hq
  · exact h
  · exact t q hq
theorem all_nil {α : Type} {P : α → Prop} : ∀ q, q ∈ ([] : List α) → P q := fun _ h => nomatch h

local macro_rules | `(tactic| k_ne) => `(tactic| (first | assumption | exact Ne.symm (by assumption) | exact ne_l (by assumption) | exact ne_g (by assumption) | (refine neN ?_; (repeat ((with_reducible rename Ne _ _ => kc); clear kc)); (repeat ((with_reducible rename Ne _ _ ∧ _ => kc); clear kc)); omega) | (refine neN ?_; (repeat ((with_reducible rename Ne _ _ ∧ _ => kc); cases kc)); (first | (with_reducible assumption) | (with_reducible exact Ne.symm (by assumption)) | omega))))
set_option hygiene false in
local macro_rules | `(tactic| row_room_at HE) => `(tactic| (with_reducible (first | ((first | refine hQs.nx ?_ | refine hQs.rt ?_ | refine hQs.bk ?_ | refine hQs.ct ?_); clear hQs; clear Qs) | refine Hide.nx (by assumption) ?_ | refine HideW.nx (by assumption) ?_ | refine HideF.nx (by assumption) ?_ | refine Hide.rt (by assumption) ?_ | refine HideW.rt (by assumption) ?_ | refine HideF.rt (by assumption) ?_ | refine Hide.bk (by assumption) ?_ | refine HideW.bk (by assumption) ?_ | refine HideF.bk (by assumption) ?_ | refine Hide.ct (by assumption) ?_ | refine HideW.ct (by assumption) ?_ | refine HideF.ct (by assumption) ?_)))
set_option hygiene false in
local macro_rules | `(tactic| row_room_at HB) => `(tactic| (first | ((with_reducible show wpAny _ _ (execs _ _) (WPost _ _ _ _ _ _) _ _); refine hide_W ?_; intro Qs hQs) | ((with_reducible show wpAny _ _ (execs _ _) (FPost _ _ _ _ _ _ _) _ _); refine hide_F ?_; intro Qs hQs) | ((with_reducible show wpAny _ _ (execs (_ :: _) _) _ _ _); refine hide_cons ?_; intro Qs hQs; (try dsimp only)) | walk1))

theorem fill0 (w : World) (h : Heap) (X : (hd.heap_39 w.params).In h) : (hd.heap_39 w.params).In h ∧ PySem.Challenge.rw_ty0032_01.prog = PySem.Challenge.rw_ty0032_01.prog := by
  k_fill
  exact ⟨X, rfl⟩
/-! T_bl -/
theorem flushT_bl : True ∧ True := by first | (row_walk; done) | (walk1; done) | exact ⟨trivial, trivial⟩
noncomputable def ltCount (ns : List Int) (x : Int) : Nat := (ns.filter (fun n => decide (n < x))).length
theorem ltCount_of {ns : List Int} {x : Int} {c : Nat} (hc : c ≤ ns.length) (h1 : ∀ i : Nat, i < c → ∀ v, ns[i]? = some v → v < x) (h2 : ∀ i : Nat, c ≤ i → ∀ v, ns[i]? = some v → x ≤ v) : ltCount ns x = c := by
  induction ns generalizing c with
  | nil => simp at hc; subst hc; rfl
  | cons n r ih =>
    unfold ltCount
    cases c with
    | zero =>
      have hn : x ≤ n := h2 0 (Nat.le_refl _) n (by simp)
      have := ih (c := 0) (Nat.zero_le _) (fun i hi => absurd hi (by omega)) (fun i _ v hv => h2 (i + 1) (Nat.zero_le _) v (by simpa using hv))
      unfold ltCount at this
      rw [List.filter_cons_of_neg (by simp; omega)]; exact this
    | succ c =>
      have hn : n < x := h1 0 (by omega) n (by simp)
      have := ih (c := c) (by simpa using hc) (fun i hi v hv => h1 (i + 1) (by omega) v (by simpa using hv)) (fun i hi v hv => h2 (i + 1) (by omega) v (by simpa using hv))
      unfold ltCount at this
      rw [List.filter_cons_of_pos (by simpa using hn), List.length_cons, this]
section
theorem bisect_left_call {w : World} {p : Program} {loose : List Str} {mean : ExcName → Option Value} {mg mb : Str → Option Value} {dp un : Nat} {fs : Option (List Env)} {gd : Option (List Code)} {h₀ : Heap} {s : Shared} {Q E : Value → Shared → Prop}
  (hdp : dp + 1 < recursionLimit) (hun : un + 16 < cLine)
  (X₀ : (hd.heap_39 w.params).In h₀) (T : Top p loose mean mg mb h₀) (st : h₀.StaysIn s.heap)
  {l : Addr} {vs : List Value} {ns : List Int} {nn : Nat} {x : Int} {t : Tok} {extra : List Value} (hex : extra = [] ∨ ∃ t', extra = [.int 0 t', .none])
  (hn : ∀ q ∈ [(l, listOf vs.toArray nn)], s.heap.get? q.1 = some q.2 ∧ h₀.get? q.1 = none) (hi : IntsAre vs ns) (hsz : ns.length < 2^20) (hs : ns.Pairwise (· < ·))
  (ret : ∀ t h' tk', Kept s.heap h' [] → Q (.int (ltCount ns x) t) { s with heap := h', toks := tk' }) :
  wpAny (model PySem.Challenge.rw_ty0032_01.row.prog w) (arA dp un fs gd) (call (.ref 56) (.ref l :: .int x t :: extra)) Q E s := by
  obtain ⟨tz, hex⟩ : ∃ tz, (extra = [] ∧ tz = 268) ∨ extra = [.int 0 tz, .none] := by
    rcases hex with rfl | ⟨t', rfl⟩
    · exact ⟨268, .inl ⟨rfl, rfl⟩⟩
    · exact ⟨t', .inr rfl⟩
  refine wpAny_call ?_
  k_dflt (refine' enterP [(l, listOf vs.toArray nn)] (binds := [("a", .ref l), ("x", .int x t), ("lo", .int 0 tz), ("hi", .none), ("key", .none)]) ?k1 ?k2 ?k3 ?k4 ?k5 ?k6 ?k7 ?k9 ?kB ?_ ?c2 ?c3 ?c4 ?c5; (case k2 => k_asm); (case k3 => k_asm); (case k4 => k_asm); (case k5 => first | assumption | exact fun _ h => nomatch h); (case k6 => k_is); (case k7 => k_is); (case k1 => (first | exact lim0 hdp | (show dp < recursionLimit; omega))); (case k9 => (rcases hex with ⟨rfl, rfl⟩ | rfl) <;> (first | exact BindsTo.of_eq rfl | exact binds_K (by k_in) rfl (by k_is) rfl rfl rfl | exact kp_binds (by exact Frag.In.keeps (by assumption) (by assumption)) (fun _ => rfl))); (case c5 => decide); (case kB => exact locs rfl); (case c2 => exact rfl); (case c3 => exact rfl); (case c4 => exact rfl); k_whole; intro g' L' h' tkE F' N' X' T' lt' kp' fr' st'; (try dsimp only); (try k_fold))
  (repeat' (first | (k_unfold; (try dsimp only)) | row_room_at HE | (k_end; wrow_close) | ((with_reducible show wpAny _ _ (exec (Stmt.While _ _ _ _) _) _ _ _); k_here; refine halt ?_) | row_room_at HB | (dsimp only; (first | ((with_reducible show wpAny _ _ (exec (Stmt.While _ _ _ _) _) _ _ _); k_here; refine halt ?_) | walk1 | row_room_at HE)) | (leave1; walk_say "STEP leave1"; try dsimp only)))
  refine go ?_
  (with_reducible rename Fr _ _ _ _ => F1)
  (with_reducible rename News _ _ _ _ => N1)
  refine while_J (fun k m news => ∃ lo hi t1 t2, Knows m [("lo", .int lo t1), ("hi", .int hi t2), ("a", .ref l), ("x", .int x t)] ∧
    0 ≤ lo ∧ lo ≤ hi ∧ hi ≤ ns.length ∧ (∀ i : Nat, (i:Int) < lo → ∀ v, ns[i]? = some v → v < x) ∧ (∀ i : Nat, hi ≤ i → ∀ v, ns[i]? = some v → x ≤ v) ∧ k = (hi - lo).toNat ∧ news = [(l, listOf vs.toArray nn)])
    F1 N1 ⟨0, ns.length, _, _, ⟨rfl, rfl, rfl, rfl, trivial⟩, by omega, by omega, by omega, fun i hi => absurd hi (by omega), fun i hi v hv => ?_, rfl, rfl⟩ ?_ PassesOwn.never
  · rw [List.getElem?_eq_none (by omega)] at hv; cases hv
  · clear F1 N1
    intro k m news h tk jz5
    (refine hideP ?_; intro PP hPP); (obtain ⟨lo, hi, t1, t2, e1, b1, b2, b3, b4, b5, rfl, rfl⟩ := jz5) <;> (refine hPP ?_; clear hPP; clear PP)
    intro F N
    replace F := fr_knows e1 F
    clear e1
    have hmid : (lo + hi).fdiv 2 = (lo + hi) / 2 := by rw [Int.fdiv_eq_ediv_of_nonneg _ (by omega)]
    have hix : ∀ i : Nat, ∀ v, ns[i]? = some v → ∀ j : Nat, i ≤ j → ∀ u, ns[j]? = some u → v ≤ u := by
      intro i v hv j hij u hu
      rcases Nat.lt_or_ge i j with h1 | h1
      · have hj := (List.getElem?_eq_some_iff.mp hu)
        have hi' := (List.getElem?_eq_some_iff.mp hv)
        have := List.pairwise_iff_getElem.mp hs i j hi'.1 hj.1 h1
        rw [hi'.2, hj.2] at this; omega
      · have : i = j := by omega
        subst this; rw [hv] at hu; cases hu; exact Int.le_refl _
    (repeat' (first | (k_unfold; (try dsimp only)) | row_room_at HE | (k_end; wrow_close) | ((with_reducible show wpAny _ _ (exec (Stmt.While _ _ _ _) _) _ _ _); k_here; refine halt ?_) | row_room_at HB | (dsimp only; (first | ((with_reducible show wpAny _ _ (exec (Stmt.While _ _ _ _) _) _ _ _); k_here; refine halt ?_) | walk1 | row_room_at HE)) | (leave1; walk_say "STEP leave1"; try dsimp only)))
    · have hm : ns[((lo + hi).fdiv 2).toNat]? = some (ns.getD ((lo + hi).fdiv 2).toNat 0) := by
        rw [List.getD_eq_getElem?_getD, List.getElem?_eq_getElem (by omega)]; rfl
      refine wEnd (by assumption) (by assumption) _ ?_ ⟨(lo + hi).fdiv 2 + 1, hi, _, _, ⟨rfl, rfl, rfl, rfl, trivial⟩, by omega, by omega, by omega, fun i h1 v hv => ?_, b5, rfl, rfl⟩
      · omega
      · have := hix i v hv _ (by omega) _ hm
        omega
    · have hm : ns[((lo + hi).fdiv 2).toNat]? = some (ns.getD ((lo + hi).fdiv 2).toNat 0) := by
        rw [List.getD_eq_getElem?_getD, List.getElem?_eq_getElem (by omega)]; rfl
      refine wEnd (by assumption) (by assumption) _ ?_ ⟨lo, (lo + hi).fdiv 2, _, _, ⟨rfl, rfl, rfl, rfl, trivial⟩, by omega, by omega, by omega, b4, fun i h1 v hv => ?_, rfl, rfl⟩
      · omega
      · have := hix _ _ hm i (by omega) v hv
        omega
    · (try dsimp only)
      (repeat (first | (k_unfold; (try dsimp only)) | row_room_at HE | dsimp only))
      (try dsimp only)
      have e : (ltCount ns x : Int) = lo := by
        rw [ltCount_of (c := lo.toNat) (by omega) (fun i h1 v hv => b4 i (by omega) v hv) (fun i h1 v hv => b5 i (by omega) v hv)]; omega
      rw [← e]
      refine ret _ _ _ fun b o hb _ => ?_
      by_cases q : b = l
      · subst q
        have h1 := (hn _ (List.mem_singleton.mpr rfl)).1
        have h2 := (N _ (List.mem_singleton.mpr rfl)).1
        dsimp only at h1 h2
        rw [h1] at hb; cases hb; exact h2
      · exact kp' _ F.keep b o hb (by simpa using q)
end

/-! T_ins -/
theorem flushT_ins : True ∧ True := by first | (row_walk; done) | (walk1; done) | exact ⟨trivial, trivial⟩
theorem intsAre_take {vs : List Value} {ns : List Int} (h : IntsAre vs ns) : ∀ k, IntsAre (vs.take k) (ns.take k) := by
  induction h with
  | nil => intro k; simpa using IntsAre.nil
  | cons n t _ ih =>
    intro k
    cases k with
    | zero => exact IntsAre.nil
    | succ k => exact .cons n t (ih k)
theorem intsAre_drop {vs : List Value} {ns : List Int} (h : IntsAre vs ns) : ∀ k, IntsAre (vs.drop k) (ns.drop k) := by
  induction h with
  | nil => intro k; simpa using IntsAre.nil
  | cons n t h ih =>
    intro k
    cases k with
    | zero => exact .cons n t h
    | succ k => exact ih k
section
theorem insort_left_call {w : World} {p : Program} {loose : List Str} {mean : ExcName → Option Value} {mg mb : Str → Option Value} {dp un : Nat} {fs : Option (List Env)} {gd : Option (List Code)} {h₀ : Heap} {s : Shared} {Q E : Value → Shared → Prop}
  (hdp : dp + 2 < recursionLimit) (hun : un + 32 < cLine)
  (X₀ : (hd.heap_39 w.params).In h₀) (T : Top p loose mean mg mb h₀) (st : h₀.StaysIn s.heap)
  {l : Addr} {vs : List Value} {ns : List Int} {nn : Nat} {x : Int} {t : Tok}
  (hn : ∀ q ∈ [(l, listOf vs.toArray nn)], s.heap.get? q.1 = some q.2 ∧ h₀.get? q.1 = none) (hi : IntsAre vs ns) (hsz : ns.length < 2^20) (hs : ns.Pairwise (· < ·))
  (ret : ∀ h' tk' vs' nn', Kept s.heap h' [l] → h'.get? l = some (listOf vs'.toArray nn') → IntsAre vs' (ns.take (ltCount ns x) ++ x :: ns.drop (ltCount ns x)) → Q .none { s with heap := h', toks := tk' }) :
  wpAny (model PySem.Challenge.rw_ty0032_01.row.prog w) (arA dp un fs gd) (call (.ref 47) [.ref l, .int x t]) Q E s := by
  refine wpAny_call ?_
  k_dflt (refine' enterP [(l, listOf vs.toArray nn)] (binds := [("a", .ref l), ("x", .int x t), ("lo", .int 0 255), ("hi", .none), ("key", .none)]) ?k1 ?k2 ?k3 ?k4 ?k5 ?k6 ?k7 ?k9 ?kB ?_ ?c2 ?c3 ?c4 ?c5; (case k2 => k_asm); (case k3 => k_asm); (case k4 => k_asm); (case k5 => first | assumption | exact fun _ h => nomatch h); (case k6 => k_is); (case k7 => k_is); (case k1 => (first | exact lim0 hdp | (show dp < recursionLimit; omega))); (case k9 => first | exact BindsTo.of_eq rfl | exact binds_K (by k_in) rfl (by k_is) rfl rfl rfl | exact kp_binds (by exact Frag.In.keeps (by assumption) (by assumption)) (fun _ => rfl)); (case c5 => decide); (case kB => exact locs rfl); (case c2 => exact rfl); (case c3 => exact rfl); (case c4 => exact rfl); k_whole; intro g' L' h' tkE F' N' X' T' lt' kp' fr' st'; (try dsimp only); (try k_fold))
  (repeat' (first | (k_unfold; (try dsimp only)) | row_room_at HE | (k_end; wrow_close) | ((with_reducible show wpAny _ _ (call (Value.ref 56) _) _ _ _); k_here; (with_reducible rename Fr _ _ _ _ => kFz0); (with_reducible rename News _ _ _ _ => kNz0); refine' bisect_left_call (by (first | exact lim2 hdp rfl | exact lim1 hdp rfl | exact lim2 hun rfl | exact lim1 hun rfl | exact lim0 hdp | exact lim0 hun | exact lim3 hdp rfl | exact lim3 hun rfl | ((try dsimp only [arA, Around.deeper]); omega))) (by (first | exact lim2 hdp rfl | exact lim1 hdp rfl | exact lim2 hun rfl | exact lim1 hun rfl | exact lim0 hdp | exact lim0 hun | exact lim3 hdp rfl | exact lim3 hun rfl | ((try dsimp only [arA, Around.deeper]); omega))) (by assumption) (by assumption) (Fr.keep kFz0) (by first | exact Or.inl rfl | exact Or.inr ⟨_, rfl⟩) (hn_of kNz0 (by (intro qz0 hqz0; rw [List.mem_singleton.mp hqz0]; k_mem))) (by assumption) (by assumption) (by assumption) ?_; intro t'z0 h'z0 tk'z0 kp'z0; have F'z0 := fr_kept0 kFz0 kp'z0; have N'z0 := news_kept0 kNz0 kp'z0; clear kp'z0 kFz0 kNz0; (try dsimp only); (try k_sweep)) | row_room_at HB | (dsimp only; (first | ((with_reducible show wpAny _ _ (call (Value.ref 56) _) _ _ _); k_here; (with_reducible rename Fr _ _ _ _ => kFz0); (with_reducible rename News _ _ _ _ => kNz0); refine' bisect_left_call (by (first | exact lim2 hdp rfl | exact lim1 hdp rfl | exact lim2 hun rfl | exact lim1 hun rfl | exact lim0 hdp | exact lim0 hun | exact lim3 hdp rfl | exact lim3 hun rfl | ((try dsimp only [arA, Around.deeper]); omega))) (by (first | exact lim2 hdp rfl | exact lim1 hdp rfl | exact lim2 hun rfl | exact lim1 hun rfl | exact lim0 hdp | exact lim0 hun | exact lim3 hdp rfl | exact lim3 hun rfl | ((try dsimp only [arA, Around.deeper]); omega))) (by assumption) (by assumption) (Fr.keep kFz0) (by first | exact Or.inl rfl | exact Or.inr ⟨_, rfl⟩) (hn_of kNz0 (by (intro qz0 hqz0; rw [List.mem_singleton.mp hqz0]; k_mem))) (by assumption) (by assumption) (by assumption) ?_; intro t'z0 h'z0 tk'z0 kp'z0; have F'z0 := fr_kept0 kFz0 kp'z0; have N'z0 := news_kept0 kNz0 kp'z0; clear kp'z0 kFz0 kNz0; (try dsimp only); (try k_sweep)) | walk1 | row_room_at HE)) | (leave1; walk_say "STEP leave1"; try dsimp only)))
  have hc : ltCount ns x ≤ ns.length := List.length_filter_le _ _
  have hlen := hi.length
  refine kl_insert (by k_asm) (by k_asm) ?_ rfl (by k_upd) ?_ ?_
  · unfold Builtin.List.listFitsIndex
    simp only [Bool.and_eq_true, decide_eq_true_eq]
    omega
  · rw [sizeLine_eq]; simp only []; omega
  · intro h2 F2 N2
    (repeat' (first | (k_unfold; (try dsimp only)) | row_room_at HE | (k_end; wrow_close) | ((with_reducible show wpAny _ _ (call (Value.ref 56) _) _ _ _); k_here; (with_reducible rename Fr _ _ _ _ => kFz0); (with_reducible rename News _ _ _ _ => kNz0); refine' bisect_left_call (by (first | exact lim2 hdp rfl | exact lim1 hdp rfl | exact lim2 hun rfl | exact lim1 hun rfl | exact lim0 hdp | exact lim0 hun | exact lim3 hdp rfl | exact lim3 hun rfl | ((try dsimp only [arA, Around.deeper]); omega))) (by (first | exact lim2 hdp rfl | exact lim1 hdp rfl | exact lim2 hun rfl | exact lim1 hun rfl | exact lim0 hdp | exact lim0 hun | exact lim3 hdp rfl | exact lim3 hun rfl | ((try dsimp only [arA, Around.deeper]); omega))) (by assumption) (by assumption) (Fr.keep kFz0) (by first | exact Or.inl rfl | exact Or.inr ⟨_, rfl⟩) (hn_of kNz0 (by (intro qz0 hqz0; rw [List.mem_singleton.mp hqz0]; k_mem))) (by assumption) (by assumption) (by assumption) ?_; intro t'z0 h'z0 tk'z0 kp'z0; have F'z0 := fr_kept0 kFz0 kp'z0; have N'z0 := news_kept0 kNz0 kp'z0; clear kp'z0 kFz0 kNz0; (try dsimp only); (try k_sweep)) | row_room_at HB | (dsimp only; (first | ((with_reducible show wpAny _ _ (call (Value.ref 56) _) _ _ _); k_here; (with_reducible rename Fr _ _ _ _ => kFz0); (with_reducible rename News _ _ _ _ => kNz0); refine' bisect_left_call (by (first | exact lim2 hdp rfl | exact lim1 hdp rfl | exact lim2 hun rfl | exact lim1 hun rfl | exact lim0 hdp | exact lim0 hun | exact lim3 hdp rfl | exact lim3 hun rfl | ((try dsimp only [arA, Around.deeper]); omega))) (by (first | exact lim2 hdp rfl | exact lim1 hdp rfl | exact lim2 hun rfl | exact lim1 hun rfl | exact lim0 hdp | exact lim0 hun | exact lim3 hdp rfl | exact lim3 hun rfl | ((try dsimp only [arA, Around.deeper]); omega))) (by assumption) (by assumption) (Fr.keep kFz0) (by first | exact Or.inl rfl | exact Or.inr ⟨_, rfl⟩) (hn_of kNz0 (by (intro qz0 hqz0; rw [List.mem_singleton.mp hqz0]; k_mem))) (by assumption) (by assumption) (by assumption) ?_; intro t'z0 h'z0 tk'z0 kp'z0; have F'z0 := fr_kept0 kFz0 kp'z0; have N'z0 := news_kept0 kNz0 kp'z0; clear kp'z0 kFz0 kNz0; (try dsimp only); (try k_sweep)) | walk1 | row_room_at HE)) | (leave1; walk_say "STEP leave1"; try dsimp only)))
    (try dsimp only)
    (repeat (first | (k_unfold; (try dsimp only)) | row_room_at HE | dsimp only))
    (try dsimp only)
    refine ret _ _ _ _ (fun b o hb hbl => kp' _ F2.keep b o hb hbl) (N2 _ (List.mem_singleton.mpr rfl)).1 ?_
    unfold kl_ins
    rw [if_neg (by omega)]
    have : min (Int.toNat (ltCount ns x : Int)) vs.length = ltCount ns x := by omega
    simp only [List.toList_toArray, this]
    exact IntsAre.append (intsAre_take hi _) (.cons _ _ (intsAre_drop hi _))
end

/-! T_ways -/
theorem flushT_ways : True ∧ True := by first | (row_walk; done) | (walk1; done) | exact ⟨trivial, trivial⟩
noncomputable def waysF (top : Int) (size : Nat) : Int := (List.range size).foldl (fun (w : Int) (i : Nat) => (w * (top - (i : Int))).fdiv ((i : Int) + 1)) 1
theorem law_ways_call {w : World} {p : Program} {loose : List Str} {mean : ExcName → Option Value} {mg mb : Str → Option Value} {dp un : Nat} {fs : Option (List Env)} {gd : Option (List Code)} {h₀ : Heap} {s : Shared} {Q E : Value → Shared → Prop}
  (hdp : dp + 1 < recursionLimit) (hun : un + 16 < cLine)
  (X₀ : (hd.heap_39 w.params).In h₀) (T : Top p loose mean mg mb h₀) (st : h₀.StaysIn s.heap)
  {top : Int} {size : Int} {t1 t2 : Tok} (h0 : 0 ≤ top) (h1 : top ≤ 12) (hs : size = 0 ∨ size = 1 ∨ size = 2 ∨ size = 3)
  (ret : ∀ t h' tk', Kept s.heap h' [] → Q (.int (waysF top size.toNat) t) { s with heap := h', toks := tk' }) :
  wpAny (model PySem.Challenge.rw_ty0032_01.row.prog w) (arA dp un fs gd) (call (.ref 157) [.int top t1, .int size t2]) Q E s := by
  refine wpAny_call ?_
  k_dflt (refine' enterP [] (binds := [("top", .int top t1), ("size", .int size t2)]) ?k1 ?k2 ?k3 ?k4 ?k5 ?k6 ?k7 ?k9 ?kB ?_ ?c2 ?c3 ?c4 ?c5; (case k2 => k_asm); (case k3 => k_asm); (case k4 => k_asm); (case k5 => first | assumption | exact fun _ h => nomatch h); (case k6 => k_is); (case k7 => k_is); (case k1 => (first | exact lim0 hdp | (show dp < recursionLimit; omega))); (case k9 => first | exact BindsTo.of_eq rfl | exact binds_K (by k_in) rfl (by k_is) rfl rfl rfl | exact kp_binds (by exact Frag.In.keeps (by assumption) (by assumption)) (fun _ => rfl)); (case c5 => decide); (case kB => exact locs rfl); (case c2 => exact rfl); (case c3 => exact rfl); (case c4 => exact rfl); k_whole; intro g' L' h' tkE F' N' X' T' lt' kp' fr' st'; (try dsimp only); (try k_fold))
  rcases hs with rfl | rfl | rfl | rfl
  all_goals (repeat' (first | (k_unfold; (try dsimp only)) | row_room_at HE | (k_end; wrow_close) | row_room_at HB | (dsimp only; (first | walk1 | row_room_at HE)) | (leave1; walk_say "STEP leave1"; try dsimp only)))
  all_goals (
    (try dsimp only)
    (repeat (first | (k_unfold; (try dsimp only)) | row_room_at HE | dsimp only))
    (try dsimp only)
    refine ret_int ?_ (ret _ _ _ (kept_nil kp' (by k_asm)))
    simp [waysF, List.range, List.range.loop])

/-! T_comp -/
theorem flushT_comp : True ∧ True := by first | (row_walk; done) | (walk1; done) | exact ⟨trivial, trivial⟩
open LCg PySem.Spec in
section
variable {prog : Program} {w : World} {A : Around} {E : Value → Shared → Prop} {s : Shared} {h₀ : Heap} {L : Addr} {m : Str → Option Value} {env : Env}
open LCg PySem.Spec

/-- the source is a text -/
noncomputable def SrcS (prog : Program) (w : World) (A : Around) (h₀ : Heap) (L : Addr) (m : Str → Option Value) (env : Env) (elt : Expr) (x : Str) (scope : Scope) (cl : List (Str × Addr)) (Fin : Shared → List Value → List (Addr × Obj) → Prop) (xv : Value) (s₁ : Shared) : Prop :=
  ∃ y t news, xv = .str y t ∧ A.handled = none ∧ Fr h₀ L s₁.heap m ∧ News h₀ L s₁.heap news ∧ y.cps.size ≤ sizeLine ∧
    ∀ s₂ : Shared, (∃ h, s₂ = { s₁ with heap := h }) → CompRest prog w A h₀ L m env elt x scope cl s₂ (fun _ => True) (SignAt y) (Fin s₂) y.cps.size 0 [] news

theorem block_str {elt iter : Expr} {x : Str} {px : Pos} {scope : Scope} {cl : List (Str × Addr)} {pos : Pos} {y : Str} {t : Tok} {news : List (Addr × Obj)} {Fin : List Value → List (Addr × Obj) → Prop} {RR : Value → Addr → Result → Shared → Prop}
    (hh : A.handled = none) (F : Fr h₀ L s.heap m) (N : News h₀ L s.heap news) (hsz : y.cps.size ≤ sizeLine) (hcell : ∀ z ∈ scope.names, z.2 ≠ .cell) (hkind : scope.kind = .function) (hx : scope.names.lookup x = some .local)
    (R : ∀ s₂ : Shared, (∃ h, s₂ = { s with heap := h }) → CompRest prog w A h₀ L m env elt x scope cl s₂ (fun _ => True) (SignAt y) Fin y.cps.size 0 [] news)
    (hRR : ∀ D C h tk m' ys news', Fr h₀ L h m → News h₀ L h ((D, lst ys) :: news') → Off1 D news' → h.Ns C m' → h₀.get? C = none → h₀.get? D = none → C ≠ L → D ≠ L → C ≠ D → (∀ p ∈ news', p.1 ≠ C) → Fin ys news' → RR (.ref D) C (.ok .next) { s with heap := h, toks := tk }) :
    wpAny (model prog w) A (pyIter (.str y t)) (fun it s₂ => wpAny (model prog w) A (newList []) (fun acc s₃ => wpAny (model prog w) A (newFunctionEnv scope env.globals cl [] env.qual none .none (some env)) (fun cenv s₄ =>
      codeAny (model prog w) A (.compStart (.ListComp elt [⟨.Name x px, iter, [], 0⟩] scope pos) 0 it acc { cenv with scope := relabel scope env }) (RR acc cenv.locals) s₄) E s₃) E s₂) E s := by
  have up : ∀ (o : Obj) b o', s.heap.get? b = some o' → (s.heap.push o).get? b = some o' := fun _ b o e => Heap.get?_push_of_some _ e
  have sit : ∀ (c : String) i (h h' : Heap) (o : Obj) (nw : List (Addr × Obj)), h.IsStrIter s.heap.objs.size c y t i → h.get? s.heap.objs.size = some o → h'.get? s.heap.objs.size = some o → (∀ b o, h₀.get? b = some o → h'.get? b = some o) → News h₀ L h' nw → True → h'.IsStrIter s.heap.objs.size c y t i :=
    fun c i h h' o nw st e e' _ _ _ => by obtain ⟨o', q, r⟩ := st; rw [e] at q; cases q; exact ⟨o, e', r⟩
  have fpb : ∀ (o : Obj), ∀ b ∈ [s.heap.objs.size], b < (s.heap.push o).objs.size := fun o b hb => by rw [List.mem_singleton.mp hb, Heap.size_push]; exact Nat.lt_succ_self _
  cases ha : y.cps.all (· < 128)
  · refine wpAny_pyIter_wide ha ?_
    exact block_U (Walks.strWide hh _ y t) hsz (fun i h st => by obtain ⟨o, e, _⟩ := st; exact ⟨o, e⟩) (sit "str_iterator") hcell hkind hx ⟨_, Heap.get?_push_size _ rfl, rfl, rfl⟩ (fpb _) (F.keeps (up _)) (N.grown (up _)) (Nat.ne_of_lt F.ns.lt) (next_is_new F) (fun p hp => Nat.ne_of_lt (Heap.lt_size (N p hp).1)) trivial (R _ ⟨_, rfl⟩) hRR
  · refine wpAny_pyIter_ascii ha ?_
    exact block_U (Walks.strAscii hh _ y t) hsz (fun i h st => by obtain ⟨o, e, _⟩ := st; exact ⟨o, e⟩) (sit "str_ascii_iterator") hcell hkind hx ⟨_, Heap.get?_push_size _ rfl, rfl, rfl⟩ (fpb _) (F.keeps (up _)) (N.grown (up _)) (Nat.ne_of_lt F.ns.lt) (next_is_new F) (fun p hp => Nat.ne_of_lt (Heap.lt_size (N p hp).1)) trivial (R _ ⟨_, rfl⟩) hRR

theorem ListComp_S {elt iter : Expr} {x : Str} {px : Pos} {scope : Scope} {cl : List (Str × Addr)} {pos : Pos} {Q : Value → Shared → Prop} (_F₀ : Fr h₀ L s.heap m)
    (hclos : closureFor scope env = pure cl) (hcell : ∀ y ∈ scope.names, y.2 ≠ .cell) (hkind : scope.kind = .function)
    (hnames : ∀ y ∈ scope.names, y.2 = .local → scope.names.lookup y.1 = some .local) (hx : scope.names.lookup x = some .local)
    (h : wpAny (model prog w) A (eval iter env) (SrcS prog w A h₀ L m env elt x scope cl (fun s₂ => FinE h₀ L m s₂ Q)) E s)
    (hs : ∀ x, foldedSetIterable iter env x = pure x := by intro _; rfl) :
    wpAny (model prog w) A (eval (.ListComp elt [⟨.Name x px, iter, [], 0⟩] scope pos) env) Q E s := by
  rw [eval_ListComp]
  refine wpAny_comprehension_free (use := none) rfl hs hclos hkind hnames (wpAny_mono h (fun xv s₁ h₁ => ?_) fun _ _ e => e)
  (refine hideP ?_; intro PP hPP); (obtain ⟨y, t, news, rfl, hh, F, N, hsz, R⟩ := h₁) <;> (refine hPP ?_; clear hPP; clear PP)
  refine block_str (Fin := fun ys news => FinE h₀ L m s₁ Q ys news) hh F N hsz hcell hkind hx (fun s₂ hs₂ => ?_) ?_
  · obtain ⟨h', rfl⟩ := hs₂
    exact R _ ⟨h', rfl⟩
  · intro D C h tk m' ys news' F' N' o1 hn hC₀ hD₀ hCL hDL hCD offC fin
    refine ⟨m', hn, fun h'' hs'' => fin D h'' tk (F'.change hs'' hCL hC₀) (fun p hp => ?_) o1⟩
    refine ⟨hs''.extBut _ _ ?_ (N' p hp).1, (N' p hp).2⟩
    rcases List.mem_cons.mp hp with rfl | hp
    · exact Ne.symm hCD
    · exact offC p hp

/-- a comprehension's rest by a word over the turns -/
theorem compRest_J {elt : Expr} {x : Str} {scope : Scope} {cl : List (Str × Addr)} {S : List (Addr × Obj) → Prop} {P : Nat → Value → Prop} {Fin : List Value → List (Addr × Obj) → Prop} (J : Nat → List Value → List (Addr × Obj) → Prop) {n : Nat}
    (turn : ∀ i ys news v I oI C oC D m₂ h tk (E' : Value → Shared → Prop), i < n → J i ys news → P i v → NsObj oC m₂ → m₂ x = some v → Fr h₀ L h m → News h₀ L h ((I, oI) :: (C, oC) :: (D, lst ys) :: news) → Off3 I C D news → ((@Ne Nat I C) ∧ (@Ne Nat I D) ∧ (@Ne Nat C D)) →
      wpAny (model prog w) A (eval elt (compEnvC scope cl C env)) (CompEnd h₀ L m { s with heap := h, toks := tk } I oI C oC D (lst ys) S (fun y news' => J (i + 1) (ys ++ [y]) news')) E' { s with heap := h, toks := tk })
    (fin : ∀ ys news, J n ys news → Fin ys news) : ∀ k i ys news, i + k = n → J i ys news → CompRest prog w A h₀ L m env elt x scope cl s S P Fin k i ys news := by
  intro k
  induction k with
  | zero => intro i ys news e j; obtain rfl : i = n := by omega
            exact CompRest.zero (fin _ _ j)
  | succ k ih =>
    intro i ys news e j
    refine CompRest.succ ?_
    intro v I oI C oC D m₂ h tk E' hv hC hx F N off ne
    refine wpAny_mono (turn i ys news v I oI C oC D m₂ h tk E' (by omega) j hv hC hx F N off ne) (fun y s₂ hq => ?_) fun _ _ e => e
    (refine hideP ?_; intro PP hPP); (obtain ⟨h', tk', nw, e', F', N', off', hS, j'⟩ := hq) <;> (refine hPP ?_; clear hPP; clear PP)
    exact ⟨h', tk', nw, e', F', N', off', hS, ih (i + 1) _ _ (by omega) j'⟩
end

/-! T_next -/
theorem flushT_next : True ∧ True := by first | (row_walk; done) | (walk1; done) | exact ⟨trivial, trivial⟩
noncomputable abbrev liObj (l : Addr) (i : Nat) : Obj := { cls := .type "list_iterator", data := .fields #[.ref l, .int i 0] }
section
variable {prog : Program} {w : World} {A : Around} {E : Value → Shared → Prop} {s : Shared} {h₀ : Heap} {L : Addr} {m : Str → Option Value} {news news' : List (Addr × Obj)}
theorem special_next_list {it l : Addr} {i : Nat} {items : Array Value} {x : Value} {Q : Option Value → Shared → Prop} (ho : s.heap.get? it = some (liObj l i)) (hl : s.heap.IsList l items) (hx : items[i]? = some x)
    (h : ∀ h', Heap.SameBut it s.heap h' → h'.get? it = some (liObj l (i + 1)) → Q (some x) { s with heap := h' }) : wpAny (model prog w) A (callSpecial? (.ref it) (Str.ofString "__next__")) Q E s := by
  have hit : s.heap.IsListIter it l i := ⟨_, ho, rfl, rfl⟩
  (refine hideP ?_; intro PP hPP); (obtain ⟨ol, hol, _, nl, hdl⟩ := hl) <;> (refine hPP ?_; clear hPP; clear PP)
  refine wpAny_callSpecial?_slot (name := Str.ofString "__next__") hit.typeIs slot_listiter_next (wpAny_call_entry slot_listiter_next hit.typeIs entry_listiter_next ?_ (args_listiter_next _))
  show wpAny _ _ (field (.ref it) 0 >>= _) _ _ s
  refine wpAny_bind (wpAny_field ho (by rfl) (x := .ref l) rfl ?_)
  show wpAny _ _ (if (Value.ref l == Value.none) = true then _ else _) _ _ s
  rw [if_neg (show ¬ ((Value.ref l == Value.none) = true) from Bool.false_ne_true)]
  show wpAny _ _ (field (.ref it) 1 >>= _) _ _ s
  refine wpAny_bind (wpAny_field ho (by rfl) (x := .int i 0) rfl ?_)
  show wpAny _ _ (seqItems? (.ref l) >>= _) _ _ s
  refine wpAny_bind (wpAny_seqItems hol hdl ?_)
  simp only [Int.toNat_natCast, hx]
  refine wpAny_bind (wpAny_setField ho (by rfl) (by simp) (wpAny_pure ⟨x, rfl, h _ (Heap.SameBut.update ..) ?_⟩))
  exact Heap.get?_update_self _ ho rfl
theorem next_list {it l : Addr} {i : Nat} {items : Array Value} {x : Value} {Q : Value → Shared → Prop} (ho : s.heap.get? it = some (liObj l i)) (hl : s.heap.IsList l items) (hx : items[i]? = some x)
    (h : ∀ h', Heap.SameBut it s.heap h' → h'.get? it = some (liObj l (i + 1)) → Q x { s with heap := h' }) : wpAny (model prog w) A (call (.builtin "next") [.ref it]) Q E s := by
  have hit : s.heap.IsListIter it l i := ⟨_, ho, rfl, rfl⟩
  refine call_function_entry (by decide +kernel) (by decide +kernel) kdk_entry_next (kdk_args_next _) ?_
  unfold Builtin.«next»
  refine wpAny_bind (m := someArgs "next" 1 2 _) (wpAny_of_eq (a := [Value.ref it]) (by first | rfl | kernel_rfl!) ?_)
  (try dsimp only)
  refine wpAny_bind (wpAny_specialOf (name := Str.ofString "__next__") hit.typeIs slot_listiter_next.lookup ?_)
  refine wpAny_ite_split (fun hab => absurd hab (by decide)) (fun _ => ?_)
  refine wpAny_bind (special_next_list ho hl hx fun h' hs ho' => ?_)
  exact wpAny_pure ⟨_, rfl, h h' hs ho'⟩
/-- next(it) upon a list of the ledger -/
theorem next_K {it l : Addr} {i nn : Nat} {vs : List Value} {x : Value} {Q : Value → Shared → Prop} (F : Fr h₀ L s.heap m) (N : News h₀ L s.heap news) (U : Upd it (liObj l i) (liObj l (i + 1)) news news') (hl : (l, listOf vs.toArray nn) ∈ news) (hx : vs[i]? = some x)
    (h : ∀ h', Fr h₀ L h' m → News h₀ L h' news' → Q x { s with heap := h' }) : wpAny (model prog w) A (call (.builtin "next") [.ref it]) Q E s := by
  (refine hideP ?_; intro PP hPP); (obtain ⟨pre, post, rfl, rfl, a, b⟩ := U.split) <;> (refine hPP ?_; clear hPP; clear PP)
  have z := N (it, liObj l i) (List.mem_append_right _ (.head _))
  refine next_list z.1 ⟨_, (N _ hl).1, rfl, _, rfl⟩ (by simpa using hx) fun h' hs ho' => h h' (F.change hs z.2.1 z.2.2) (news_set N a b hs ho')
theorem iter_K {l : Addr} {nn : Nat} {its : Array Value} {Q : Value → Shared → Prop} (F : Fr h₀ L s.heap m) (N : News h₀ L s.heap news) (hl : (l, listOf its nn) ∈ news)
    (h : ∀ I h', Fr h₀ L h' m → News h₀ L h' ((I, liObj l 0) :: news) → (∀ p ∈ news, p.1 < I) → Q (.ref I) { s with heap := h' }) : wpAny (model prog w) A (call (.builtin "iter") [.ref l]) Q E s := by
  refine call_function_entry (by decide +kernel) (by decide +kernel) kdk_entry_iter (kdk_args_iter _) ?_
  unfold Builtin.«iter»
  refine wpAny_bind (m := someArgs "iter" 1 2 _) (wpAny_of_eq (a := [Value.ref l]) (by first | rfl | kernel_rfl!) ?_)
  show wpAny _ _ (pyIter (.ref l) >>= _) _ _ _
  refine wpAny_bind (wpAny_pyIter_list ⟨_, (N _ hl).1, rfl, _, rfl⟩ ?_)
  exact wpAny_pure ⟨_, rfl, h _ _ (F.push _) (News.push F N _ rfl) (fun q hq => Heap.lt_size (N q hq).1)⟩
end

/-! T_told -/
theorem flushT_told : True ∧ True := by first | (row_walk; done) | (walk1; done) | exact ⟨trivial, trivial⟩
theorem bitAnd64 : ∀ c : Nat, c < 192 → c % 128 < 64 → Builtin.bitAnd (c : Int) 64 = 0 := by decide +kernel
theorem bitAnd63 : ∀ c : Nat, c < 192 → Builtin.bitAnd (c : Int) 63 = ((c % 64 : Nat) : Int) := by decide +kernel
section
theorem parse_call {w : World} {p : Program} {loose : List Str} {mean : ExcName → Option Value} {mg mb : Str → Option Value} {dp un : Nat} {fs : Option (List Env)} {gd : Option (List Code)} {h₀ : Heap} {s : Shared} {Q E : Value → Shared → Prop}
  (hdp : dp + 1 < recursionLimit) (hun : un + 16 < cLine)
  (X₀ : (hd.heap_39 w.params).In h₀) (T : Top p loose mean mg mb h₀) (st : h₀.StaysIn s.heap)
  {it l : Addr} {vs : List Value} {nn : Nat} {a c : Nat} {iobj : Obj} (hio : iobj = liObj l 0) (hne : @Ne Nat it l)
  (hn : ∀ q ∈ [(it, iobj), (l, listOf vs.toArray nn)], s.heap.get? q.1 = some q.2 ∧ h₀.get? q.1 = none)
  (hi : IntsAre vs ((List.replicate a 64 ++ [c]).map (fun n : Nat => (n : Int)))) (hc : c < 192) (hc2 : c % 128 < 64)
  (ret : ∀ t h' tk', Kept s.heap h' [it] → Q (.int ((c % 64 : Nat) : Int) t) { s with heap := h', toks := tk' }) :
  wpAny (model PySem.Challenge.rw_ty0032_01.row.prog w) (arA dp un fs gd) (call (.ref 29) [.ref it]) Q E s := by
    subst hio
    have hget : ∀ i, i ≤ a → ∃ t, vs[i]? = some (.int ((if i = a then c else 64 : Nat) : Int) t) := by
      intro i hia
      refine hi.get i _ ?_
      rw [List.getElem?_map, List.getElem?_append]
      by_cases h : i = a
      · subst h; simp
      · rw [if_pos (by simp; omega), List.getElem?_replicate, if_pos (by omega), if_neg h]; rfl
    obtain ⟨t0, hx0⟩ := hget 0 (Nat.zero_le _)
    refine wpAny_call ?_
    k_dflt (refine' enterP [(it, liObj l 0), (l, listOf vs.toArray nn)] (binds := [("iterator", .ref it)]) ?k1 ?k2 ?k3 ?k4 ?k5 ?k6 ?k7 ?k9 ?kB ?_ ?c2 ?c3 ?c4 ?c5; (case k2 => k_asm); (case k3 => k_asm); (case k4 => k_asm); (case k5 => first | assumption | exact fun _ h => nomatch h); (case k6 => k_is); (case k7 => k_is); (case k1 => (first | exact lim0 hdp | (show dp < recursionLimit; omega))); (case k9 => first | exact BindsTo.of_eq rfl | exact binds_K (by k_in) rfl (by k_is) rfl rfl rfl | exact kp_binds (by exact Frag.In.keeps (by assumption) (by assumption)) (fun _ => rfl)); (case c5 => decide); (case kB => exact locs rfl); (case c2 => exact rfl); (case c3 => exact rfl); (case c4 => exact rfl); k_whole; intro g' L' h' tkE F' N' X' T' lt' kp' fr' st'; (try dsimp only); (try k_fold))
    (repeat' (first | (k_unfold; (try dsimp only)) | row_room_at HE | (k_end; wrow_close) | ((with_reducible show wpAny _ _ (call (Value.builtin "next") _ _) _ _ _); (k_here; (with_reducible show wpAny _ _ (call (Value.builtin "next") [Value.ref _]) _ _ _); k_dflt (refine' next_K (by k_asm) (by k_asm) (by k_upd) (by k_mem) (by assumption) ?_); intro h'z1 F'z1 N'z1; (try k_sweep))) | ((with_reducible show wpAny _ _ (exec (Stmt.While _ _ _ _) _) _ _ _); k_here; refine halt ?_) | row_room_at HB | (dsimp only; (first | ((with_reducible show wpAny _ _ (call (Value.builtin "next") _ _) _ _ _); (k_here; (with_reducible show wpAny _ _ (call (Value.builtin "next") [Value.ref _]) _ _ _); k_dflt (refine' next_K (by k_asm) (by k_asm) (by k_upd) (by k_mem) (by assumption) ?_); intro h'z1 F'z1 N'z1; (try k_sweep))) | ((with_reducible show wpAny _ _ (exec (Stmt.While _ _ _ _) _) _ _ _); k_here; refine halt ?_) | walk1 | row_room_at HE)) | (leave1; walk_say "STEP leave1"; try dsimp only)))
    refine go ?_
    (with_reducible rename Fr _ _ _ _ => F1)
    (with_reducible rename News _ _ _ _ => N1)
    refine while_J (fun k m news => ∃ (i : Nat) (b val : Int) (t1 t2 : Tok), i ≤ a ∧ k = a - i ∧ b = ((if i = a then c else 64 : Nat) : Int) ∧ val = ((if i = a then c % 64 else 0 : Nat) : Int) ∧ Knows m [("b", .int b t1), ("val", .int val t2), ("iterator", .ref it)] ∧ news = [(it, liObj l (i + 1)), (l, listOf vs.toArray nn)])
      F1 N1 ⟨0, _, _, _, _, Nat.zero_le _, rfl, rfl, ?_, ⟨rfl, rfl, rfl, trivial⟩, rfl⟩ ?_ PassesOwn.never
    · by_cases h : 0 = a
      · rw [if_pos h, if_pos h, bitAnd63 c hc]
      · rw [if_neg h, if_neg h]; rfl
    · clear F1 N1 hx0
      intro k m news h tk jz5
      (refine hideP ?_; intro PP hPP); (obtain ⟨i, b, val, t1, t2, hia, rfl, hb, hv, e1, rfl⟩ := jz5) <;> (refine hPP ?_; clear hPP; clear PP)
      intro F N
      replace F := fr_knows e1 F
      clear e1
      by_cases hi' : i = a
      · rw [if_pos hi'] at hb hv
        have hz : Builtin.bitAnd b 64 = 0 := by rw [hb]; exact bitAnd64 c hc hc2
        (repeat' (first | (k_unfold; (try dsimp only)) | row_room_at HE | (k_end; wrow_close) | ((with_reducible show wpAny _ _ (call (Value.builtin "next") _ _) _ _ _); (k_here; (with_reducible show wpAny _ _ (call (Value.builtin "next") [Value.ref _]) _ _ _); k_dflt (refine' next_K (by k_asm) (by k_asm) (by k_upd) (by k_mem) (by assumption) ?_); intro h'z1 F'z1 N'z1; (try k_sweep))) | ((with_reducible show wpAny _ _ (exec (Stmt.While _ _ _ _) _) _ _ _); k_here; refine halt ?_) | row_room_at HB | (dsimp only; (first | ((with_reducible show wpAny _ _ (call (Value.builtin "next") _ _) _ _ _); (k_here; (with_reducible show wpAny _ _ (call (Value.builtin "next") [Value.ref _]) _ _ _); k_dflt (refine' next_K (by k_asm) (by k_asm) (by k_upd) (by k_mem) (by assumption) ?_); intro h'z1 F'z1 N'z1; (try k_sweep))) | ((with_reducible show wpAny _ _ (exec (Stmt.While _ _ _ _) _) _ _ _); k_here; refine halt ?_) | walk1 | row_room_at HE)) | (leave1; walk_say "STEP leave1"; try dsimp only)))
        · exact absurd hz (by assumption)
        (try dsimp only)
        (repeat (first | (k_unfold; (try dsimp only)) | row_room_at HE | dsimp only))
        (try dsimp only)
        rw [hv]
        refine ret _ _ _ fun q o hq hql => ?_
        by_cases e : q = l
        · subst e
          have h1 := (hn _ (List.mem_cons_of_mem _ (List.mem_singleton.mpr rfl))).1
          have h2 := (N _ (List.mem_cons_of_mem _ (List.mem_singleton.mpr rfl))).1
          dsimp only at h1 h2
          rw [h1] at hq; cases hq; exact h2
        · exact kp' _ F.keep q o hq (by simpa using ⟨by simpa using hql, e⟩)
      · rw [if_neg hi'] at hb hv
        obtain ⟨t3, hx⟩ := hget (i + 1) (by omega)
        subst hb hv
        (repeat' (first | (k_unfold; (try dsimp only)) | row_room_at HE | (k_end; wrow_close) | ((with_reducible show wpAny _ _ (call (Value.builtin "next") _ _) _ _ _); (k_here; (with_reducible show wpAny _ _ (call (Value.builtin "next") [Value.ref _]) _ _ _); k_dflt (refine' next_K (by k_asm) (by k_asm) (by k_upd) (by k_mem) (by assumption) ?_); intro h'z1 F'z1 N'z1; (try k_sweep))) | ((with_reducible show wpAny _ _ (exec (Stmt.While _ _ _ _) _) _ _ _); k_here; refine halt ?_) | row_room_at HB | (dsimp only; (first | ((with_reducible show wpAny _ _ (call (Value.builtin "next") _ _) _ _ _); (k_here; (with_reducible show wpAny _ _ (call (Value.builtin "next") [Value.ref _]) _ _ _); k_dflt (refine' next_K (by k_asm) (by k_asm) (by k_upd) (by k_mem) (by assumption) ?_); intro h'z1 F'z1 N'z1; (try k_sweep))) | ((with_reducible show wpAny _ _ (exec (Stmt.While _ _ _ _) _) _ _ _); k_here; refine halt ?_) | walk1 | row_room_at HE)) | (leave1; walk_say "STEP leave1"; try dsimp only)))
        refine wEnd (by assumption) (by assumption) _ ?_ ⟨i + 1, _, _, _, _, by omega, rfl, rfl, ?_, ⟨rfl, rfl, rfl, trivial⟩, rfl⟩
        · omega
        · by_cases h : i + 1 = a
          · rw [if_pos h, if_pos h, bitAnd63 c hc]
            have : ∀ n, n < 64 → Builtin.bitOr ((0 : Nat) * 2 ^ Int.toNat 6) ((n : Nat) : Int) = (n : Int) := by decide +kernel
            exact this _ (Nat.mod_lt _ (by decide))
          · rw [if_neg h, if_neg h]; decide
end

/-! T_told2 -/
theorem flushT_told2 : True ∧ True := by first | (row_walk; done) | (walk1; done) | exact ⟨trivial, trivial⟩
theorem intsAre_snoc {vs : List Value} {ns : List Int} (h : IntsAre vs ns) (n : Int) (t : Tok) : IntsAre (vs ++ [.int n t]) (ns ++ [n]) := IntsAre.append h (.cons n t .nil)
section
theorem law_told_call {w : World} {p : Program} {loose : List Str} {mean : ExcName → Option Value} {mg mb : Str → Option Value} {dp un : Nat} {fs : Option (List Env)} {gd : Option (List Code)} {h₀ : Heap} {s : Shared} {Q E : Value → Shared → Prop}
  (hdp : dp + 2 < recursionLimit) (hun : un + 40 < cLine)
  (X₀ : (hd.heap_39 w.params).In h₀) (T : Top p loose mean mg mb h₀) (st : h₀.StaysIn s.heap)
  {word : Str} {t : Tok} {a : Nat} {c : Nat} (hw : word.cps.toList = List.replicate a 64 ++ [c]) (ha : a ≤ 2) (hc : c < 192) (hc2 : c % 128 < 64)
  (ret : ∀ t h' tk', Kept s.heap h' [] → Q (.int ((c % 64 : Nat) : Int) t) { s with heap := h', toks := tk' }) :
  wpAny (model PySem.Challenge.rw_ty0032_01.row.prog w) (arA dp un fs gd) (call (.ref 122) [.str word t]) Q E s := by
    have hsz : word.cps.size = a + 1 := by rw [← Array.length_toList, hw]; simp
    refine wpAny_call ?_
    k_dflt (refine' enterP [] (binds := [("word", .str word t)]) ?k1 ?k2 ?k3 ?k4 ?k5 ?k6 ?k7 ?k9 ?kB ?_ ?c2 ?c3 ?c4 ?c5; (case k2 => k_asm); (case k3 => k_asm); (case k4 => k_asm); (case k5 => first | assumption | exact fun _ h => nomatch h); (case k6 => k_is); (case k7 => k_is); (case k1 => (first | exact lim0 hdp | (show dp < recursionLimit; omega))); (case k9 => first | exact BindsTo.of_eq rfl | exact binds_K (by k_in) rfl (by k_is) rfl rfl rfl | exact kp_binds (by exact Frag.In.keeps (by assumption) (by assumption)) (fun _ => rfl)); (case c5 => decide); (case kB => exact locs rfl); (case c2 => exact rfl); (case c3 => exact rfl); (case c4 => exact rfl); k_whole; intro g' L' h' tkE F' N' X' T' lt' kp' fr' st'; (try dsimp only); (try k_fold))
    (repeat' (first | (k_unfold; (try dsimp only)) | row_room_at HE | (k_end; wrow_close) | ((with_reducible show wpAny _ _ (call (Value.builtin "iter") _ _) _ _ _); (k_here; (with_reducible show wpAny _ _ (call (Value.builtin "iter") [Value.ref _]) _ _ _); k_dflt (refine' iter_K (by k_asm) (by k_asm) (by k_mem) ?_); intro I'z1 h'z1 F'z1 N'z1 l1z1; (try k_lt l1z1); (try k_sweep))) | ((with_reducible show wpAny _ _ (eval (Expr.ListComp _ _ _ _) _) _ _ _); (k_here; k_dflt (refine ListComp_S (by k_asm) (by with_unfolding_all rfl) (by decide) (by rfl) (by decide) (by rfl) ?_))) | row_room_at HB | (dsimp only; (first | ((with_reducible show wpAny _ _ (call (Value.builtin "iter") _ _) _ _ _); (k_here; (with_reducible show wpAny _ _ (call (Value.builtin "iter") [Value.ref _]) _ _ _); k_dflt (refine' iter_K (by k_asm) (by k_asm) (by k_mem) ?_); intro I'z1 h'z1 F'z1 N'z1 l1z1; (try k_lt l1z1); (try k_sweep))) | ((with_reducible show wpAny _ _ (eval (Expr.ListComp _ _ _ _) _) _ _ _); (k_here; k_dflt (refine ListComp_S (by k_asm) (by with_unfolding_all rfl) (by decide) (by rfl) (by decide) (by rfl) ?_))) | walk1 | row_room_at HE)) | (leave1; walk_say "STEP leave1"; try dsimp only)))
    refine ⟨word, t, _, rfl, rfl, by k_asm, by k_asm, by rw [sizeLine_eq]; omega, fun s₂ hs₂ => ?_⟩
    obtain ⟨h2, rfl⟩ := hs₂
    refine compRest_J (fun i ys news => IntsAre ys ((word.cps.toList.take i).map fun n : Nat => (n : Int)) ∧ news = []) ?_ ?_ _ 0 [] [] (Nat.zero_add _) ⟨.nil, rfl⟩
    · intro i ys news v I oI C oC D m₂ h tk E' hin jz14 jz15
      (refine hideP ?_; intro PP hPP); (obtain ⟨hys, rfl⟩ := jz14; obtain ⟨c', u, hc', rfl⟩ := jz15) <;> (refine hPP ?_; clear hPP; clear PP)
      intro hC hx F N off ne
      (repeat' (first | (k_unfold; (try dsimp only)) | row_room_at HE | (k_end; wrow_close) | ((with_reducible show wpAny _ _ (call (Value.builtin "iter") _ _) _ _ _); (k_here; (with_reducible show wpAny _ _ (call (Value.builtin "iter") [Value.ref _]) _ _ _); k_dflt (refine' iter_K (by k_asm) (by k_asm) (by k_mem) ?_); intro I'z1 h'z1 F'z1 N'z1 l1z1; (try k_lt l1z1); (try k_sweep))) | ((with_reducible show wpAny _ _ (eval (Expr.ListComp _ _ _ _) _) _ _ _); (k_here; k_dflt (refine ListComp_S (by k_asm) (by with_unfolding_all rfl) (by decide) (by rfl) (by decide) (by rfl) ?_))) | row_room_at HB | (dsimp only; (first | ((with_reducible show wpAny _ _ (call (Value.builtin "iter") _ _) _ _ _); (k_here; (with_reducible show wpAny _ _ (call (Value.builtin "iter") [Value.ref _]) _ _ _); k_dflt (refine' iter_K (by k_asm) (by k_asm) (by k_mem) ?_); intro I'z1 h'z1 F'z1 N'z1 l1z1; (try k_lt l1z1); (try k_sweep))) | ((with_reducible show wpAny _ _ (eval (Expr.ListComp _ _ _ _) _) _ _ _); (k_here; k_dflt (refine ListComp_S (by k_asm) (by with_unfolding_all rfl) (by decide) (by rfl) (by decide) (by rfl) ?_))) | walk1 | row_room_at HE)) | (leave1; walk_say "STEP leave1"; try dsimp only)))
      rw [List.take_add_one, Array.getElem?_toList, hc', List.map_append]
      exact intsAre_snoc hys _ _
    · rintro ys news ⟨hys, rfl⟩ D h3 tk3 F3 N3 off
      rw [show word.cps.size = word.cps.toList.length from (Array.length_toList ..).symm, List.take_length, hw] at hys
      (repeat' (first | (k_unfold; (try dsimp only)) | row_room_at HE | (k_end; wrow_close) | ((with_reducible show wpAny _ _ (call (Value.builtin "iter") _ _) _ _ _); (k_here; (with_reducible show wpAny _ _ (call (Value.builtin "iter") [Value.ref _]) _ _ _); k_dflt (refine' iter_K (by k_asm) (by k_asm) (by k_mem) ?_); intro I'z1 h'z1 F'z1 N'z1 l1z1; (try k_lt l1z1); (try k_sweep))) | ((with_reducible show wpAny _ _ (eval (Expr.ListComp _ _ _ _) _) _ _ _); (k_here; k_dflt (refine ListComp_S (by k_asm) (by with_unfolding_all rfl) (by decide) (by rfl) (by decide) (by rfl) ?_))) | row_room_at HB | (dsimp only; (first | ((with_reducible show wpAny _ _ (call (Value.builtin "iter") _ _) _ _ _); (k_here; (with_reducible show wpAny _ _ (call (Value.builtin "iter") [Value.ref _]) _ _ _); k_dflt (refine' iter_K (by k_asm) (by k_asm) (by k_mem) ?_); intro I'z1 h'z1 F'z1 N'z1 l1z1; (try k_lt l1z1); (try k_sweep))) | ((with_reducible show wpAny _ _ (eval (Expr.ListComp _ _ _ _) _) _ _ _); (k_here; k_dflt (refine ListComp_S (by k_asm) (by with_unfolding_all rfl) (by decide) (by rfl) (by decide) (by rfl) ?_))) | walk1 | row_room_at HE)) | (leave1; walk_say "STEP leave1"; try dsimp only)))
      (with_reducible rename Fr _ _ _ _ => F4)
      (with_reducible rename News _ _ _ _ => N4)
      refine' parse_call ?a ?b X' T' ?c rfl ?d ?e hys hc hc2 ?_
      (case a => (first | exact lim2 hdp rfl | exact lim1 hdp rfl | exact lim2 hun rfl | exact lim1 hun rfl | exact lim0 hdp | exact lim0 hun | exact lim3 hdp rfl | exact lim3 hun rfl | ((try dsimp only [arA, Around.deeper]); omega)))
      (case b => (first | exact lim2 hdp rfl | exact lim1 hdp rfl | exact lim2 hun rfl | exact lim1 hun rfl | exact lim0 hdp | exact lim0 hun | exact lim3 hdp rfl | exact lim3 hun rfl | ((try dsimp only [arA, Around.deeper]); omega)))
      (case c => exact F4.keep)
      (case e => exact hn_of N4 (fun q hq => hq))
      · omega
      · intro t5 h5 tk5 kp5
        (repeat' (first | (k_unfold; (try dsimp only)) | row_room_at HE | (k_end; wrow_close) | ((with_reducible show wpAny _ _ (call (Value.builtin "iter") _ _) _ _ _); (k_here; (with_reducible show wpAny _ _ (call (Value.builtin "iter") [Value.ref _]) _ _ _); k_dflt (refine' iter_K (by k_asm) (by k_asm) (by k_mem) ?_); intro I'z1 h'z1 F'z1 N'z1 l1z1; (try k_lt l1z1); (try k_sweep))) | ((with_reducible show wpAny _ _ (eval (Expr.ListComp _ _ _ _) _) _ _ _); (k_here; k_dflt (refine ListComp_S (by k_asm) (by with_unfolding_all rfl) (by decide) (by rfl) (by decide) (by rfl) ?_))) | row_room_at HB | (dsimp only; (first | ((with_reducible show wpAny _ _ (call (Value.builtin "iter") _ _) _ _ _); (k_here; (with_reducible show wpAny _ _ (call (Value.builtin "iter") [Value.ref _]) _ _ _); k_dflt (refine' iter_K (by k_asm) (by k_asm) (by k_mem) ?_); intro I'z1 h'z1 F'z1 N'z1 l1z1; (try k_lt l1z1); (try k_sweep))) | ((with_reducible show wpAny _ _ (eval (Expr.ListComp _ _ _ _) _) _ _ _); (k_here; k_dflt (refine ListComp_S (by k_asm) (by with_unfolding_all rfl) (by decide) (by rfl) (by decide) (by rfl) ?_))) | walk1 | row_room_at HE)) | (leave1; walk_say "STEP leave1"; try dsimp only)))
        exact ret _ _ _ (kept_nil kp' (fr_kept1 F4 N4 (.head _) kp5))
end

/-! T_br -/
theorem flushT_br : True ∧ True := by first | (row_walk; done) | (walk1; done) | exact ⟨trivial, trivial⟩
/-- what a key function of one int answers, on every heap over the base -/
noncomputable def KeySpec (w : World) (h₀ : Heap) (fn : Addr) (f : Int → Int) (b : Int) : Prop :=
  ∀ (n : Int) (t : Tok) (dp un : Nat) (fs : Option (List Env)) (gd : Option (List Code)) (s : Shared) (Q E : Value → Shared → Prop), 0 ≤ n → n < b → dp + 2 < recursionLimit → un + 32 < cLine → h₀.StaysIn s.heap →
    (∀ t h' tk', Kept s.heap h' [] → Q (.int (f n) t) { s with heap := h', toks := tk' }) → wpAny (model PySem.Challenge.rw_ty0032_01.row.prog w) (arA dp un fs gd) (call (.ref fn) [.int n t]) Q E s
/-- a function object stands at fn -/
noncomputable def FnAt (h : Heap) (fn : Addr) (fo : Obj) : Prop := h.get? fn = some fo ∧ ∃ fd, fo.data = .func fd
theorem FnAt.out {h : Heap} {fn : Addr} {fo : Obj} (x : FnAt h fn fo) : ∃ fd, h.get? fn = some fo ∧ fo.data = .func fd := ⟨x.2.choose, x.1, x.2.choose_spec⟩
section
theorem bisect_right_call {w : World} {p : Program} {loose : List Str} {mean : ExcName → Option Value} {mg mb : Str → Option Value} {dp un : Nat} {fs : Option (List Env)} {gd : Option (List Code)} {h₀ : Heap} {s : Shared} {Q E : Value → Shared → Prop}
  (hdp : dp + 4 < recursionLimit) (hun : un + 64 < cLine)
  (X₀ : (hd.heap_39 w.params).In h₀) (T : Top p loose mean mg mb h₀) (st : h₀.StaysIn s.heap)
  {l fn : Addr} {vs : List Value} {ns : List Int} {x : Int} {t : Tok} {f : Int → Int} {b : Int} (hk : KeySpec w h₀ fn f b) {fo : Obj} (hfo : FnAt h₀ fn fo)
  (hl : h₀.IsList l vs.toArray) (hi : IntsAre vs ns) (hsz : ns.length < 2^20) (hb : ∀ n ∈ ns, 0 ≤ n ∧ n < b) (hb0 : 0 < b) {c : Nat} (hc : c ≤ ns.length)
  (h1 : ∀ i : Nat, i < c → ∀ v, ns[i]? = some v → f v ≤ x) (h2 : ∀ i : Nat, c ≤ i → ∀ v, ns[i]? = some v → x < f v)
  (ret : ∀ t h' tk', Kept s.heap h' [] → Q (.int c t) { s with heap := h', toks := tk' }) :
  wpAny (model PySem.Challenge.rw_ty0032_01.row.prog w) (arA dp un fs gd) (call (.ref 38) [.ref l, .int x t] [("key", .ref fn)]) Q E s := by
  refine wpAny_call ?_
  k_dflt (refine' enterP [] (binds := [("a", .ref l), ("x", .int x t), ("lo", .int 0 241), ("hi", .none), ("key", .ref fn)]) ?k1 ?k2 ?k3 ?k4 ?k5 ?k6 ?k7 ?k9 ?kB ?_ ?c2 ?c3 ?c4 ?c5; (case k2 => k_asm); (case k3 => k_asm); (case k4 => k_asm); (case k5 => first | assumption | exact fun _ h => nomatch h); (case k6 => k_is); (case k7 => k_is); (case k1 => (first | exact lim0 hdp | (show dp < recursionLimit; omega))); (case k9 => first | exact BindsTo.of_eq rfl | exact binds_K (by k_in) rfl (by k_is) rfl rfl rfl | exact kp_binds (by exact Frag.In.keeps (by assumption) (by assumption)) (fun _ => rfl)); (case c5 => decide); (case kB => exact locs rfl); (case c2 => exact rfl); (case c3 => exact rfl); (case c4 => exact rfl); k_whole; intro g' L' h' tkE F' N' X' T' lt' kp' fr' st'; (try dsimp only); (try k_fold))
  have hl' : g'.IsList l vs.toArray := hl.at fun o e => st' _ _ e
  have hfo' : FnAt g' fn fo := ⟨st' _ _ hfo.1, hfo.2⟩
  clear hfo
  (repeat' (first | (k_unfold; (try dsimp only)) | row_room_at HE | (k_end; wrow_close) | ((with_reducible show Heap.get? _ _ = some _ ∧ _); (with_reducible rename FnAt _ _ _ => kSz3); (with_reducible rename Fr _ _ _ _ => kFz3); refine ⟨kFz3.keep _ _ kSz3.1, ?_⟩; (try dsimp only [List.nil_append, List.cons_append])) | ((with_reducible show wpAny _ _ (callWith _ (Value.ref _) _ _ _) _ _ _); (k_here; (with_reducible rename FnAt _ _ _ => kSz2); obtain ⟨kdz2, kOz2, kEz2⟩ := kSz2.out; k_dflt (refine' callWith_F kOz2 kEz2 ?_))) | ((with_reducible show wpAny _ _ (call (Value.ref _) _ _) _ _ _); (k_here; (try simp only [List.nil_append]); (with_reducible show wpAny _ _ (call (Value.ref _) [Value.int _ _]) _ _ _); (with_reducible rename KeySpec _ _ _ _ _ => kSz1); (with_reducible rename Fr _ _ _ _ => kFz1); (with_reducible rename News _ _ _ _ => kNz1); (with_reducible rename Heap.StaysIn _ _ => kTz1); refine' kSz1 _ _ _ _ _ _ _ _ _ (by solve_by_elim) (by solve_by_elim) (by (first | exact lim2 hdp rfl | exact lim1 hdp rfl | exact lim2 hun rfl | exact lim1 hun rfl | exact lim0 hdp | exact lim0 hun | exact lim3 hdp rfl | exact lim3 hun rfl | ((try dsimp only [arA, Around.deeper]); omega))) (by (first | exact lim2 hdp rfl | exact lim1 hdp rfl | exact lim2 hun rfl | exact lim1 hun rfl | exact lim0 hdp | exact lim0 hun | exact lim3 hdp rfl | exact lim3 hun rfl | ((try dsimp only [arA, Around.deeper]); omega))) (fun b o e => kFz1.keep b o (kTz1 b o e)) ?_; intro t'z1 h'z1 tk'z1 kp'z1; have F'z1 := fr_kept0 kFz1 kp'z1; have N'z1 := news_kept0 kNz1 kp'z1; clear kp'z1 kFz1 kNz1; (try dsimp only); (try k_sweep))) | ((with_reducible show wpAny _ _ (exec (Stmt.While _ _ _ _) _) _ _ _); k_here; refine halt ?_) | row_room_at HB | (dsimp only; (first | ((with_reducible show Heap.get? _ _ = some _ ∧ _); (with_reducible rename FnAt _ _ _ => kSz3); (with_reducible rename Fr _ _ _ _ => kFz3); refine ⟨kFz3.keep _ _ kSz3.1, ?_⟩; (try dsimp only [List.nil_append, List.cons_append])) | ((with_reducible show wpAny _ _ (callWith _ (Value.ref _) _ _ _) _ _ _); (k_here; (with_reducible rename FnAt _ _ _ => kSz2); obtain ⟨kdz2, kOz2, kEz2⟩ := kSz2.out; k_dflt (refine' callWith_F kOz2 kEz2 ?_))) | ((with_reducible show wpAny _ _ (call (Value.ref _) _ _) _ _ _); (k_here; (try simp only [List.nil_append]); (with_reducible show wpAny _ _ (call (Value.ref _) [Value.int _ _]) _ _ _); (with_reducible rename KeySpec _ _ _ _ _ => kSz1); (with_reducible rename Fr _ _ _ _ => kFz1); (with_reducible rename News _ _ _ _ => kNz1); (with_reducible rename Heap.StaysIn _ _ => kTz1); refine' kSz1 _ _ _ _ _ _ _ _ _ (by solve_by_elim) (by solve_by_elim) (by (first | exact lim2 hdp rfl | exact lim1 hdp rfl | exact lim2 hun rfl | exact lim1 hun rfl | exact lim0 hdp | exact lim0 hun | exact lim3 hdp rfl | exact lim3 hun rfl | ((try dsimp only [arA, Around.deeper]); omega))) (by (first | exact lim2 hdp rfl | exact lim1 hdp rfl | exact lim2 hun rfl | exact lim1 hun rfl | exact lim0 hdp | exact lim0 hun | exact lim3 hdp rfl | exact lim3 hun rfl | ((try dsimp only [arA, Around.deeper]); omega))) (fun b o e => kFz1.keep b o (kTz1 b o e)) ?_; intro t'z1 h'z1 tk'z1 kp'z1; have F'z1 := fr_kept0 kFz1 kp'z1; have N'z1 := news_kept0 kNz1 kp'z1; clear kp'z1 kFz1 kNz1; (try dsimp only); (try k_sweep))) | ((with_reducible show wpAny _ _ (exec (Stmt.While _ _ _ _) _) _ _ _); k_here; refine halt ?_) | walk1 | row_room_at HE)) | (leave1; walk_say "STEP leave1"; try dsimp only)))
  refine go ?_
  (with_reducible rename Fr _ _ _ _ => F1)
  (with_reducible rename News _ _ _ _ => N1)
  refine while_J (fun k m news => ∃ lo hi t1 t2, Knows m [("lo", .int lo t1), ("hi", .int hi t2), ("a", .ref l), ("x", .int x t), ("key", .ref fn)] ∧
    0 ≤ lo ∧ lo ≤ c ∧ c ≤ hi ∧ hi ≤ ns.length ∧ k = (hi - lo).toNat ∧ news = [])
    F1 N1 ⟨0, ns.length, _, _, ⟨rfl, rfl, rfl, rfl, rfl, trivial⟩, by omega, by omega, by omega, by omega, rfl, rfl⟩ ?_ PassesOwn.never
  clear F1 N1
  intro k m news h tk jz5
  (refine hideP ?_; intro PP hPP); (obtain ⟨lo, hi, t1, t2, e1, b1, b2, b3, b4, rfl, rfl⟩ := jz5) <;> (refine hPP ?_; clear hPP; clear PP)
  intro F N
  replace F := fr_knows e1 F
  clear e1
  have hmid : (lo + hi).fdiv 2 = (lo + hi) / 2 := by rw [Int.fdiv_eq_ediv_of_nonneg _ (by omega)]
  have hg1 : ∀ k : Nat, 0 ≤ ns.getD k 0 := fun k => by
    rw [List.getD_eq_getElem?_getD]
    cases e : ns[k]? with
    | none => exact Int.le_refl _
    | some v => exact (hb v (List.mem_of_getElem? e)).1
  have hg2 : ∀ k : Nat, ns.getD k 0 < b := fun k => by
    rw [List.getD_eq_getElem?_getD]
    cases e : ns[k]? with
    | none => exact hb0
    | some v => exact (hb v (List.mem_of_getElem? e)).2
  (repeat' (first | (k_unfold; (try dsimp only)) | row_room_at HE | (k_end; wrow_close) | ((with_reducible show Heap.get? _ _ = some _ ∧ _); (with_reducible rename FnAt _ _ _ => kSz3); (with_reducible rename Fr _ _ _ _ => kFz3); refine ⟨kFz3.keep _ _ kSz3.1, ?_⟩; (try dsimp only [List.nil_append, List.cons_append])) | ((with_reducible show wpAny _ _ (callWith _ (Value.ref _) _ _ _) _ _ _); (k_here; (with_reducible rename FnAt _ _ _ => kSz2); obtain ⟨kdz2, kOz2, kEz2⟩ := kSz2.out; k_dflt (refine' callWith_F kOz2 kEz2 ?_))) | ((with_reducible show wpAny _ _ (call (Value.ref _) _ _) _ _ _); (k_here; (try simp only [List.nil_append]); (with_reducible show wpAny _ _ (call (Value.ref _) [Value.int _ _]) _ _ _); (with_reducible rename KeySpec _ _ _ _ _ => kSz1); (with_reducible rename Fr _ _ _ _ => kFz1); (with_reducible rename News _ _ _ _ => kNz1); (with_reducible rename Heap.StaysIn _ _ => kTz1); refine' kSz1 _ _ _ _ _ _ _ _ _ (by solve_by_elim) (by solve_by_elim) (by (first | exact lim2 hdp rfl | exact lim1 hdp rfl | exact lim2 hun rfl | exact lim1 hun rfl | exact lim0 hdp | exact lim0 hun | exact lim3 hdp rfl | exact lim3 hun rfl | ((try dsimp only [arA, Around.deeper]); omega))) (by (first | exact lim2 hdp rfl | exact lim1 hdp rfl | exact lim2 hun rfl | exact lim1 hun rfl | exact lim0 hdp | exact lim0 hun | exact lim3 hdp rfl | exact lim3 hun rfl | ((try dsimp only [arA, Around.deeper]); omega))) (fun b o e => kFz1.keep b o (kTz1 b o e)) ?_; intro t'z1 h'z1 tk'z1 kp'z1; have F'z1 := fr_kept0 kFz1 kp'z1; have N'z1 := news_kept0 kNz1 kp'z1; clear kp'z1 kFz1 kNz1; (try dsimp only); (try k_sweep))) | ((with_reducible show wpAny _ _ (exec (Stmt.While _ _ _ _) _) _ _ _); k_here; refine halt ?_) | row_room_at HB | (dsimp only; (first | ((with_reducible show Heap.get? _ _ = some _ ∧ _); (with_reducible rename FnAt _ _ _ => kSz3); (with_reducible rename Fr _ _ _ _ => kFz3); refine ⟨kFz3.keep _ _ kSz3.1, ?_⟩; (try dsimp only [List.nil_append, List.cons_append])) | ((with_reducible show wpAny _ _ (callWith _ (Value.ref _) _ _ _) _ _ _); (k_here; (with_reducible rename FnAt _ _ _ => kSz2); obtain ⟨kdz2, kOz2, kEz2⟩ := kSz2.out; k_dflt (refine' callWith_F kOz2 kEz2 ?_))) | ((with_reducible show wpAny _ _ (call (Value.ref _) _ _) _ _ _); (k_here; (try simp only [List.nil_append]); (with_reducible show wpAny _ _ (call (Value.ref _) [Value.int _ _]) _ _ _); (with_reducible rename KeySpec _ _ _ _ _ => kSz1); (with_reducible rename Fr _ _ _ _ => kFz1); (with_reducible rename News _ _ _ _ => kNz1); (with_reducible rename Heap.StaysIn _ _ => kTz1); refine' kSz1 _ _ _ _ _ _ _ _ _ (by solve_by_elim) (by solve_by_elim) (by (first | exact lim2 hdp rfl | exact lim1 hdp rfl | exact lim2 hun rfl | exact lim1 hun rfl | exact lim0 hdp | exact lim0 hun | exact lim3 hdp rfl | exact lim3 hun rfl | ((try dsimp only [arA, Around.deeper]); omega))) (by (first | exact lim2 hdp rfl | exact lim1 hdp rfl | exact lim2 hun rfl | exact lim1 hun rfl | exact lim0 hdp | exact lim0 hun | exact lim3 hdp rfl | exact lim3 hun rfl | ((try dsimp only [arA, Around.deeper]); omega))) (fun b o e => kFz1.keep b o (kTz1 b o e)) ?_; intro t'z1 h'z1 tk'z1 kp'z1; have F'z1 := fr_kept0 kFz1 kp'z1; have N'z1 := news_kept0 kNz1 kp'z1; clear kp'z1 kFz1 kNz1; (try dsimp only); (try k_sweep))) | ((with_reducible show wpAny _ _ (exec (Stmt.While _ _ _ _) _) _ _ _); k_here; refine halt ?_) | walk1 | row_room_at HE)) | (leave1; walk_say "STEP leave1"; try dsimp only)))
  · have hm : ns[((lo + hi).fdiv 2).toNat]? = some (ns.getD ((lo + hi).fdiv 2).toNat 0) := by
      rw [List.getD_eq_getElem?_getD, List.getElem?_eq_getElem (by omega)]; rfl
    have hcm : c ≤ ((lo + hi).fdiv 2).toNat := by
      rcases Nat.lt_or_ge ((lo + hi).fdiv 2).toNat c with q | q
      · exact absurd (h1 _ q _ hm) (by omega)
      · exact q
    refine wEnd (by assumption) (by assumption) _ ?_ ⟨lo, (lo + hi).fdiv 2, _, _, ⟨rfl, rfl, rfl, rfl, rfl, trivial⟩, by omega, by omega, by omega, by omega, rfl, rfl⟩
    omega
  · have hm : ns[((lo + hi).fdiv 2).toNat]? = some (ns.getD ((lo + hi).fdiv 2).toNat 0) := by
      rw [List.getD_eq_getElem?_getD, List.getElem?_eq_getElem (by omega)]; rfl
    have hcm : ((lo + hi).fdiv 2).toNat < c := by
      rcases Nat.lt_or_ge ((lo + hi).fdiv 2).toNat c with q | q
      · exact q
      · exact absurd (h2 _ q _ hm) (by omega)
    refine wEnd (by assumption) (by assumption) _ ?_ ⟨(lo + hi).fdiv 2 + 1, hi, _, _, ⟨rfl, rfl, rfl, rfl, rfl, trivial⟩, by omega, by omega, by omega, by omega, rfl, rfl⟩
    omega
  · (try dsimp only)
    (repeat (first | (k_unfold; (try dsimp only)) | row_room_at HE | dsimp only))
    (try dsimp only)
    have e : (c : Int) = lo := by omega
    rw [← e]
    exact ret _ _ _ (kept_nil kp' F)
end

/-! T_few -/
theorem flushT_few : True ∧ True := by first | (row_walk; done) | (walk1; done) | exact ⟨trivial, trivial⟩
noncomputable def topN (count : Int) (size : Nat) : Nat := ((List.range 12).filter fun i : Nat => decide (waysF (i : Int) size ≤ count)).length
noncomputable def fewF : Nat → Int → Int
  | 0, _ => 0
  | k + 1, count => if 0 < count then waysF ((topN count (k + 1) : Int) - 1) k + fewF k (count - waysF ((topN count (k + 1) : Int) - 1) (k + 1)) else 0
theorem topN_mono : ∀ k : Nat, k < 4 → 1 ≤ k → ∀ c : Nat, c < 11 → ∀ i : Nat, i < 12 → (decide (waysF (i : Int) k ≤ (c : Int)) = decide (i < topN c k)) := by decide +kernel
theorem topN_bound : ∀ k : Nat, k < 4 → 1 ≤ k → ∀ c : Nat, c < 11 → 1 ≤ topN c k ∧ topN c k ≤ 12 := by decide +kernel
theorem few_step : ∀ k : Nat, k < 3 → ∀ c : Nat, c < 11 → 1 ≤ c → 0 ≤ (c : Int) - waysF ((topN c (k + 1) : Int) - 1) (k + 1) ∧ (c : Int) - waysF ((topN c (k + 1) : Int) - 1) (k + 1) ≤ 10 ∧ (k = 0 → (c : Int) - waysF ((topN c (k + 1) : Int) - 1) (k + 1) = 0) := by decide +kernel
theorem few_next {k : Nat} {cnt : Int} (hk : k ≤ 3) (h0 : k = 0 → cnt = 0) (h1 : 0 < cnt) (h2 : cnt ≤ 10) :
    ∃ j, k = j + 1 ∧ 0 ≤ cnt - waysF ((topN cnt k : Int) - 1) k ∧ cnt - waysF ((topN cnt k : Int) - 1) k ≤ 10 ∧ (j = 0 → cnt - waysF ((topN cnt k : Int) - 1) k = 0) ∧ fewF k cnt = waysF ((topN cnt k : Int) - 1) j + fewF j (cnt - waysF ((topN cnt k : Int) - 1) k) := by
  cases k with
  | zero => exact absurd (h0 rfl) (by omega)
  | succ j =>
    obtain ⟨c, rfl⟩ : ∃ c : Nat, cnt = (c : Int) := ⟨cnt.toNat, by omega⟩
    (refine hideP ?_; intro PP hPP); (obtain ⟨a, b, d⟩ := few_step j (by omega) c (by omega) (by omega)) <;> (refine hPP ?_; clear hPP; clear PP)
    exact ⟨j, rfl, a, b, d, by rw [fewF, if_pos h1]⟩
theorem news_pick {g h : Heap} {L : Addr} {a b c d : Addr × Obj} {r : List (Addr × Obj)} (N : News g L h (a :: b :: c :: d :: r)) : News g L h [a, b, d] := news_sub N (by
  intro q hq
  revert hq
  revert q
  exact all_cons (by (first | k_mem | exact Or.inl (by k_mem) | exact Or.inr (by (repeat (first | exact List.Mem.head _ | apply List.Mem.tail))))) (all_cons (by (first | k_mem | exact Or.inl (by k_mem) | exact Or.inr (by (repeat (first | exact List.Mem.head _ | apply List.Mem.tail))))) (all_cons (by (first | k_mem | exact Or.inl (by k_mem) | exact Or.inr (by (repeat (first | exact List.Mem.head _ | apply List.Mem.tail))))) (all_nil))))
theorem news_pick2 {g h : Heap} {L : Addr} {a b c d e : Addr × Obj} {r : List (Addr × Obj)} (N : News g L h (a :: b :: c :: d :: e :: r)) : News g L h [a, e, c] := news_sub N (by
  intro q hq
  revert hq
  revert q
  exact all_cons (by (first | k_mem | exact Or.inl (by k_mem) | exact Or.inr (by (repeat (first | exact List.Mem.head _ | apply List.Mem.tail))))) (all_cons (by (first | k_mem | exact Or.inl (by k_mem) | exact Or.inr (by (repeat (first | exact List.Mem.head _ | apply List.Mem.tail))))) (all_cons (by (first | k_mem | exact Or.inl (by k_mem) | exact Or.inr (by (repeat (first | exact List.Mem.head _ | apply List.Mem.tail))))) (all_nil))))
theorem news_end {g h : Heap} {L a : Addr} {co : Obj} {v : Option Value} {y z : Addr × Obj} {r : List (Addr × Obj)} (_ : co.data = .cell v) (N : News g L h r) (hx : (a, co) ∈ r) (hy : y ∈ r) (hz : z ∈ r) : News g L h [(a, co), y, z] := news_sub N (by
  intro q hq
  simp only [List.mem_cons, List.not_mem_nil, or_false] at hq
  rcases hq with e | e | e
  · rw [e]; exact hx
  · rw [e]; exact hy
  · rw [e]; exact hz)
/-- the table of _law_fewest_within's code, before and after its lambda was first made -/
noncomputable def TabMiss (tabs : List (Addr × Obj)) : Prop := tabs = [(159, tabObj #[])]
noncomputable def TabHit (tabs : List (Addr × Obj)) : Prop := ∃ c' oc vs t, tabs = [(159, tabObj #[rawInt 204, rawInt 55, .ref c']), (c', oc)] ∧ oc.data = .fields vs ∧ vs[1]? = some (.str ((Str.ofString "_law_fewest_within" ++ Str.ofString ".<locals>.") ++ Str.ofString "<lambda>") t) ∧ @Ne Nat c' 159
section
theorem fewest_call {w : World} {p : Program} {loose : List Str} {mean : ExcName → Option Value} {mg mb : Str → Option Value} {dp un : Nat} {fs : Option (List Env)} {gd : Option (List Code)} {h₀ : Heap} {s : Shared} {Q E : Value → Shared → Prop}
  (hdp : dp + 8 < recursionLimit) (hun : un + 128 < cLine)
  (X₀ : (hd.heap_39 w.params).In h₀) (T : Top p loose mean mg mb h₀) (st : h₀.StaysIn s.heap)
  {count size : Int} {t1 t2 : Tok} {tabs : List (Addr × Obj)} (ht : TabMiss tabs ∨ TabHit tabs) (hC : CodeHd h₀ 163 159)
  (hn : ∀ q ∈ tabs, s.heap.get? q.1 = some q.2 ∧ h₀.get? q.1 = none)
  (hs : size = 1 ∨ size = 2 ∨ size = 3) (hc : 0 ≤ count ∧ count ≤ 10)
  (ret : ∀ t h' tk' tabs', (TabHit tabs' ∨ (TabMiss tabs' ∧ tabs' = tabs ∧ count = 0)) → Kept s.heap h' (tabs.map (·.1)) → (∀ q ∈ tabs', h'.get? q.1 = some q.2 ∧ h₀.get? q.1 = none) → (∀ q ∈ tabs', q.1 ∈ tabs.map (·.1) ∨ s.heap.get? q.1 = none) →
    Q (.int (fewF size.toNat count) t) { s with heap := h', toks := tk' }) :
  wpAny (model PySem.Challenge.rw_ty0032_01.row.prog w) (arA dp un fs gd) (call (.ref 164) [.int count t1, .int size t2]) Q E s := by
  have h159 : ∃ o, (159, o) ∈ tabs := by
    rcases ht with rfl | ⟨_, _, _, _, rfl, _⟩
    · exact ⟨_, .head _⟩
    · exact ⟨_, .head _⟩
  refine wpAny_call ?_
  k_dflt (refine' enterC tabs (binds := [("count", .int count t1), ("size", .int size t2)]) ?k1 ?k2 ?k3 ?k4 ?k5 ?k6 ?k7 ?k9 ?kB ?_ ?kD ?c2 ?c3 ?c4; (case k2 => k_asm); (case k3 => k_asm); (case k4 => k_asm); (case k5 => first | assumption | exact fun _ h => nomatch h); (case k6 => k_is); (case k7 => k_is); (case k1 => (first | exact lim0 hdp | (show dp < recursionLimit; omega))); (case k9 => first | exact BindsTo.of_eq rfl | exact binds_K (by k_in) rfl (by k_is) rfl rfl rfl | exact kp_binds (by exact Frag.In.keeps (by assumption) (by assumption)) (fun _ => rfl)); (case kB => exact rfl); (case kD => decide +kernel); (case c2 => exact rfl); (case c3 => exact rfl); (case c4 => exact rfl); k_whole; intro g' L' h' tk' cells' F' N' Y' X' T' lt' kp' fr' st'; k_cells Y'; (try simp only [List.cons_append, List.nil_append] at N'); (try dsimp only); (try k_fold))
  have hC' : CodeHd g' 163 159 := hC.keeps st'
  have l0 : @LT.lt Nat _ 159 L' := by obtain ⟨o, ho⟩ := h159; exact lt' _ ho
  (repeat' (first | (k_unfold; (try dsimp only)) | row_room_at HE | (k_end; wrow_close) | ((with_reducible show wpAny _ _ (call (Value.ref 157) _) _ _ _); k_here; (with_reducible rename Fr _ _ _ _ => kFz3); (with_reducible rename News _ _ _ _ => kNz3); refine' law_ways_call (by (first | exact lim2 hdp rfl | exact lim1 hdp rfl | exact lim2 hun rfl | exact lim1 hun rfl | exact lim0 hdp | exact lim0 hun | exact lim3 hdp rfl | exact lim3 hun rfl | ((try dsimp only [arA, Around.deeper]); omega))) (by (first | exact lim2 hdp rfl | exact lim1 hdp rfl | exact lim2 hun rfl | exact lim1 hun rfl | exact lim0 hdp | exact lim0 hun | exact lim3 hdp rfl | exact lim3 hun rfl | ((try dsimp only [arA, Around.deeper]); omega))) (by assumption) (by assumption) (Fr.keep kFz3) (by omega) (by omega) (by omega) ?_; intro t'z3 h'z3 tk'z3 kp'z3; have F'z3 := fr_kept0 kFz3 kp'z3; have N'z3 := news_kept0 kNz3 kp'z3; clear kp'z3 kFz3 kNz3; (try dsimp only); (try k_sweep)) | ((with_reducible show wpAny _ _ (call (Value.ref 38) _ _) _ _ _); k_here; refine halt ?_) | ((with_reducible show wpAny _ _ (eval (Expr.Lambda _ _ _ _) _) _ _ _); (k_here; refine haltNP (by with_reducible assumption) ?_)) | ((with_reducible show wpAny _ _ (exec (Stmt.While _ _ _ _) _) _ _ _); k_here; refine halt ?_) | row_room_at HB | (dsimp only; (first | ((with_reducible show wpAny _ _ (call (Value.ref 157) _) _ _ _); k_here; (with_reducible rename Fr _ _ _ _ => kFz3); (with_reducible rename News _ _ _ _ => kNz3); refine' law_ways_call (by (first | exact lim2 hdp rfl | exact lim1 hdp rfl | exact lim2 hun rfl | exact lim1 hun rfl | exact lim0 hdp | exact lim0 hun | exact lim3 hdp rfl | exact lim3 hun rfl | ((try dsimp only [arA, Around.deeper]); omega))) (by (first | exact lim2 hdp rfl | exact lim1 hdp rfl | exact lim2 hun rfl | exact lim1 hun rfl | exact lim0 hdp | exact lim0 hun | exact lim3 hdp rfl | exact lim3 hun rfl | ((try dsimp only [arA, Around.deeper]); omega))) (by assumption) (by assumption) (Fr.keep kFz3) (by omega) (by omega) (by omega) ?_; intro t'z3 h'z3 tk'z3 kp'z3; have F'z3 := fr_kept0 kFz3 kp'z3; have N'z3 := news_kept0 kNz3 kp'z3; clear kp'z3 kFz3 kNz3; (try dsimp only); (try k_sweep)) | ((with_reducible show wpAny _ _ (call (Value.ref 38) _ _) _ _ _); k_here; refine halt ?_) | ((with_reducible show wpAny _ _ (eval (Expr.Lambda _ _ _ _) _) _ _ _); (k_here; refine haltNP (by with_reducible assumption) ?_)) | ((with_reducible show wpAny _ _ (exec (Stmt.While _ _ _ _) _) _ _ _); k_here; refine halt ?_) | walk1 | row_room_at HE)) | (leave1; walk_say "STEP leave1"; try dsimp only)))
  refine go ?_
  (with_reducible rename Fr _ _ _ _ => F1)
  (with_reducible rename News _ _ _ _ => N1)
  refine while_J (fun k m news => ∃ (cnt few : Int) (sz : Nat) (t1 t2 t3 : Tok) (co : Obj) (tabs' : List (Addr × Obj)), Knows m [("count", .int cnt t1), ("fewest", .int few t2)] ∧ 0 ≤ cnt ∧ cnt ≤ 10 ∧ sz ≤ 3 ∧ (sz = 0 → cnt = 0) ∧
      few + fewF sz cnt = fewF size.toNat count ∧ k = sz ∧ co.data = .cell (some (.int sz t3)) ∧ news = (L' + 1, co) :: tabs' ∧ (TabHit tabs' ∨ (TabMiss tabs' ∧ tabs' = tabs ∧ cnt = count)) ∧ (∀ q ∈ tabs', @Ne Nat q.1 (L' + 1)) ∧ (∀ q ∈ tabs', q.1 ∈ tabs.map (·.1) ∨ s.heap.get? q.1 = none))
      F1 N1 ⟨count, 0, size.toNat, _, _, t2, _, tabs, ⟨rfl, rfl, trivial⟩, by omega, by omega, by omega, by omega, by omega, rfl, ?_, rfl, ?_, ?_, fun q hq => .inl (List.mem_map_of_mem hq)⟩ ?_ PassesOwn.never
  · (with_reducible rename _ = Data.cell _ => dc)
    rw [dc]
    rcases hs with rfl | rfl | rfl <;> rfl
  · rcases ht with ht | ht
    · exact .inr ⟨ht, rfl, rfl⟩
    · exact .inl ht
  · intro q hq
    exact Nat.ne_of_lt (Nat.lt_succ_of_lt (lt' q hq))
  · clear F1 N1
    intro k m news h tk jz5
    (refine hideP ?_; intro PP hPP); (obtain ⟨cnt, few, sz, t1, t2, t3, co, tabs', e1, b1, b2, b3, b4, b5, rfl, hco, rfl, hst, hne, hfr⟩ := jz5) <;> (refine hPP ?_; clear hPP; clear PP)
    intro F N
    replace F := fr_knows e1 F
    clear e1
    have htop : 0 < cnt → (1 ≤ topN cnt k ∧ topN cnt k ≤ 12) ∧ ∀ i : Nat, i < 12 → (waysF (i : Int) k ≤ cnt ↔ i < topN cnt k) := by
      intro hp
      obtain ⟨c, rfl⟩ : ∃ c : Nat, cnt = (c : Int) := ⟨cnt.toNat, by omega⟩
      refine ⟨topN_bound k (by omega) (by omega) c (by omega), fun i hi => ?_⟩
      have := topN_mono k (by omega) (by omega) c (by omega) i hi
      simpa using this
    by_cases hcp : 0 < cnt
    · (refine hideP ?_; intro PP hPP); (obtain ⟨⟨tb1, tb2⟩, tb3⟩ := htop hcp) <;> (refine hPP ?_; clear hPP; clear PP)
      (refine hideP ?_; intro PP hPP); (obtain ⟨j, hj, nx1, nx2, nx3, nx4⟩ := few_next b3 b4 hcp b2) <;> (refine hPP ?_; clear hPP; clear PP)
      have htop1 : ∀ i : Nat, i < topN cnt k → ∀ v, ((List.range 12).map fun i : Nat => (i : Int))[i]? = some v → waysF v k ≤ cnt := by
        intro i hi v hv
        rw [List.getElem?_map, List.getElem?_range (by omega)] at hv
        cases hv
        exact (tb3 i (by omega)).mpr hi
      have htop2 : ∀ i : Nat, topN cnt k ≤ i → ∀ v, ((List.range 12).map fun i : Nat => (i : Int))[i]? = some v → cnt < waysF v k := by
        intro i hi v hv
        by_cases h12 : i < 12
        · rw [List.getElem?_map, List.getElem?_range h12] at hv
          cases hv
          have := mt (tb3 i h12).mp (by omega)
          exact Int.lt_of_not_ge this
        · rw [List.getElem?_eq_none (by simp; omega)] at hv; cases hv
      clear htop tb3
      have htt : TabMiss tabs' ∨ TabHit tabs' := by
        rcases hst with x | x
        · exact .inr x
        · exact .inl x.1
      rcases htt with htt | ⟨c', oc', vs', t', htt, d1, d2, hc159⟩
      · have hst' : tabs = [(159, tabObj #[])] := by
          rcases hst with ⟨_, _, _, _, x, _⟩ | x
          · rw [htt] at x; cases x
          · rw [← x.2.1]; exact htt
        replace htt : tabs' = [(159, tabObj #[])] := htt
        subst htt
        (repeat' (first | (k_unfold; (try dsimp only)) | row_room_at HE | (k_end; wrow_close) | ((with_reducible show wpAny _ _ (call (Value.ref 157) _) _ _ _); k_here; (with_reducible rename Fr _ _ _ _ => kFz3); (with_reducible rename News _ _ _ _ => kNz3); refine' law_ways_call (by (first | exact lim2 hdp rfl | exact lim1 hdp rfl | exact lim2 hun rfl | exact lim1 hun rfl | exact lim0 hdp | exact lim0 hun | exact lim3 hdp rfl | exact lim3 hun rfl | ((try dsimp only [arA, Around.deeper]); omega))) (by (first | exact lim2 hdp rfl | exact lim1 hdp rfl | exact lim2 hun rfl | exact lim1 hun rfl | exact lim0 hdp | exact lim0 hun | exact lim3 hdp rfl | exact lim3 hun rfl | ((try dsimp only [arA, Around.deeper]); omega))) (by assumption) (by assumption) (Fr.keep kFz3) (by omega) (by omega) (by omega) ?_; intro t'z3 h'z3 tk'z3 kp'z3; have F'z3 := fr_kept0 kFz3 kp'z3; have N'z3 := news_kept0 kNz3 kp'z3; clear kp'z3 kFz3 kNz3; (try dsimp only); (try k_sweep)) | ((with_reducible show wpAny _ _ (call (Value.ref 38) _ _) _ _ _); k_here; refine halt ?_) | ((with_reducible show wpAny _ _ (eval (Expr.Lambda _ _ _ _) _) _ _ _); (k_here; refine haltNP (by with_reducible assumption) ?_)) | ((with_reducible show wpAny _ _ (exec (Stmt.While _ _ _ _) _) _ _ _); k_here; refine halt ?_) | row_room_at HB | (dsimp only; (first | ((with_reducible show wpAny _ _ (call (Value.ref 157) _) _ _ _); k_here; (with_reducible rename Fr _ _ _ _ => kFz3); (with_reducible rename News _ _ _ _ => kNz3); refine' law_ways_call (by (first | exact lim2 hdp rfl | exact lim1 hdp rfl | exact lim2 hun rfl | exact lim1 hun rfl | exact lim0 hdp | exact lim0 hun | exact lim3 hdp rfl | exact lim3 hun rfl | ((try dsimp only [arA, Around.deeper]); omega))) (by (first | exact lim2 hdp rfl | exact lim1 hdp rfl | exact lim2 hun rfl | exact lim1 hun rfl | exact lim0 hdp | exact lim0 hun | exact lim3 hdp rfl | exact lim3 hun rfl | ((try dsimp only [arA, Around.deeper]); omega))) (by assumption) (by assumption) (Fr.keep kFz3) (by omega) (by omega) (by omega) ?_; intro t'z3 h'z3 tk'z3 kp'z3; have F'z3 := fr_kept0 kFz3 kp'z3; have N'z3 := news_kept0 kNz3 kp'z3; clear kp'z3 kFz3 kNz3; (try dsimp only); (try k_sweep)) | ((with_reducible show wpAny _ _ (call (Value.ref 38) _ _) _ _ _); k_here; refine halt ?_) | ((with_reducible show wpAny _ _ (eval (Expr.Lambda _ _ _ _) _) _ _ _); (k_here; refine haltNP (by with_reducible assumption) ?_)) | ((with_reducible show wpAny _ _ (exec (Stmt.While _ _ _ _) _) _ _ _); k_here; refine halt ?_) | walk1 | row_room_at HE)) | (leave1; walk_say "STEP leave1"; try dsimp only)))
        · refine go ?_
          rename_i hQs h1 tk1 r1 r2 r3 R1 F1 N1 k1 h2 tk2 ys F2 N2 k2 fresh2 l2 npY caY mkY
          obtain ⟨nX, NX⟩ := made_enters npY F2 N2 fresh2
          have iX : IntsAre ys ((List.range 12).map fun i : Nat => (i : Int)) := CarriedAll.intsOf caY
          have lX : @LT.lt Nat _ (L' + 1) h1.objs.size := Heap.lt_size (N1 _ (.head _)).1
          have lX3 := allLt_of fun q hq => Heap.lt_size (N1 q hq).1
          simp only [AllLt, and_true] at lX3
          dsimp only at NX
          clear R1 F1 N1 k1 npY caY mkY l2 fresh2 k2 N2
          generalize h1.objs.size = D at *
          have lX2 : @LT.lt Nat _ 159 D := Nat.lt_trans l0 (Nat.lt_trans (Nat.lt_succ_self _) lX)
          (repeat' (first | (k_unfold; (try dsimp only)) | row_room_at HE | (k_end; wrow_close) | ((with_reducible show wpAny _ _ (call (Value.ref 157) _) _ _ _); k_here; (with_reducible rename Fr _ _ _ _ => kFz3); (with_reducible rename News _ _ _ _ => kNz3); refine' law_ways_call (by (first | exact lim2 hdp rfl | exact lim1 hdp rfl | exact lim2 hun rfl | exact lim1 hun rfl | exact lim0 hdp | exact lim0 hun | exact lim3 hdp rfl | exact lim3 hun rfl | ((try dsimp only [arA, Around.deeper]); omega))) (by (first | exact lim2 hdp rfl | exact lim1 hdp rfl | exact lim2 hun rfl | exact lim1 hun rfl | exact lim0 hdp | exact lim0 hun | exact lim3 hdp rfl | exact lim3 hun rfl | ((try dsimp only [arA, Around.deeper]); omega))) (by assumption) (by assumption) (Fr.keep kFz3) (by omega) (by omega) (by omega) ?_; intro t'z3 h'z3 tk'z3 kp'z3; have F'z3 := fr_kept0 kFz3 kp'z3; have N'z3 := news_kept0 kNz3 kp'z3; clear kp'z3 kFz3 kNz3; (try dsimp only); (try k_sweep)) | ((with_reducible show wpAny _ _ (call (Value.ref 38) _ _) _ _ _); k_here; refine halt ?_) | ((with_reducible show wpAny _ _ (eval (Expr.Lambda _ _ _ _) _) _ _ _); (k_here; refine haltNP (by with_reducible assumption) ?_)) | ((with_reducible show wpAny _ _ (exec (Stmt.While _ _ _ _) _) _ _ _); k_here; refine halt ?_) | row_room_at HB | (dsimp only; (first | ((with_reducible show wpAny _ _ (call (Value.ref 157) _) _ _ _); k_here; (with_reducible rename Fr _ _ _ _ => kFz3); (with_reducible rename News _ _ _ _ => kNz3); refine' law_ways_call (by (first | exact lim2 hdp rfl | exact lim1 hdp rfl | exact lim2 hun rfl | exact lim1 hun rfl | exact lim0 hdp | exact lim0 hun | exact lim3 hdp rfl | exact lim3 hun rfl | ((try dsimp only [arA, Around.deeper]); omega))) (by (first | exact lim2 hdp rfl | exact lim1 hdp rfl | exact lim2 hun rfl | exact lim1 hun rfl | exact lim0 hdp | exact lim0 hun | exact lim3 hdp rfl | exact lim3 hun rfl | ((try dsimp only [arA, Around.deeper]); omega))) (by assumption) (by assumption) (Fr.keep kFz3) (by omega) (by omega) (by omega) ?_; intro t'z3 h'z3 tk'z3 kp'z3; have F'z3 := fr_kept0 kFz3 kp'z3; have N'z3 := news_kept0 kNz3 kp'z3; clear kp'z3 kFz3 kNz3; (try dsimp only); (try k_sweep)) | ((with_reducible show wpAny _ _ (call (Value.ref 38) _ _) _ _ _); k_here; refine halt ?_) | ((with_reducible show wpAny _ _ (eval (Expr.Lambda _ _ _ _) _) _ _ _); (k_here; refine haltNP (by with_reducible assumption) ?_)) | ((with_reducible show wpAny _ _ (exec (Stmt.While _ _ _ _) _) _ _ _); k_here; refine halt ?_) | walk1 | row_room_at HE)) | (leave1; walk_say "STEP leave1"; try dsimp only)))
          refine go ?_
          rename_i f' c' oc' vs' t' ct' h3 tk3 F3 N3 d1 d2 l1 l2
          have KS : KeySpec w h3 f' (fun n => waysF n k) 12 := by
            intro n t dp un fs gd s' Q E n0 n1 hdp hun hst ret
            have N4 := news_pick N3
            have hn' := fun q hq => (⟨hst _ _ (N4 q hq).1, (N4 q hq).2.2⟩ : s'.heap.get? q.1 = some q.2 ∧ g'.get? q.1 = none)
            have st2 : g'.StaysIn s'.heap := fun b o e => hst _ _ (F3.keep b o e)
            clear F3 N3 F2 NX N4
            refine wpAny_call ?_
            k_dflt (refine' enterL _ ?k1 ?k2 ?k3 ?k4 ?k5 ?ko ?kc ?kd ?kv ?k9 ?kB ?_ ?c2 ?c3 ?c4 ?c5; (case k2 => k_asm); (case k3 => k_asm); (case k4 => assumption); (case k5 => assumption); (case ko => k_mem); (case kc => k_mem); (case kd => assumption); (case kv => assumption); (case k1 => (first | exact lim2 hdp rfl | exact lim1 hdp rfl | exact lim2 hun rfl | exact lim1 hun rfl | exact lim0 hdp | exact lim0 hun | exact lim3 hdp rfl | exact lim3 hun rfl | ((try dsimp only [arA, Around.deeper]); omega))); (case k9 => exact rfl); (case c5 => decide); (case kB => exact locs rfl); (case c2 => exact rfl); (case c3 => exact rfl); (case c4 => exact rfl); k_whole; intro gL LL hL tkL FL NL XL TL ltL kpL stL; (try dsimp only); (try k_fold))
            (repeat' (first | (k_unfold; (try dsimp only)) | row_room_at HE | (k_end; wrow_close) | ((with_reducible show wpAny _ _ (call (Value.ref 157) _) _ _ _); k_here; (with_reducible rename Fr _ _ _ _ => kFz3); (with_reducible rename News _ _ _ _ => kNz3); refine' law_ways_call (by (first | exact lim2 hdp rfl | exact lim1 hdp rfl | exact lim2 hun rfl | exact lim1 hun rfl | exact lim0 hdp | exact lim0 hun | exact lim3 hdp rfl | exact lim3 hun rfl | ((try dsimp only [arA, Around.deeper]); omega))) (by (first | exact lim2 hdp rfl | exact lim1 hdp rfl | exact lim2 hun rfl | exact lim1 hun rfl | exact lim0 hdp | exact lim0 hun | exact lim3 hdp rfl | exact lim3 hun rfl | ((try dsimp only [arA, Around.deeper]); omega))) (by assumption) (by assumption) (Fr.keep kFz3) (by omega) (by omega) (by omega) ?_; intro t'z3 h'z3 tk'z3 kp'z3; have F'z3 := fr_kept0 kFz3 kp'z3; have N'z3 := news_kept0 kNz3 kp'z3; clear kp'z3 kFz3 kNz3; (try dsimp only); (try k_sweep)) | ((with_reducible show wpAny _ _ (call (Value.ref 38) _ _) _ _ _); k_here; refine halt ?_) | ((with_reducible show wpAny _ _ (eval (Expr.Lambda _ _ _ _) _) _ _ _); (k_here; refine haltNP (by with_reducible assumption) ?_)) | ((with_reducible show wpAny _ _ (exec (Stmt.While _ _ _ _) _) _ _ _); k_here; refine halt ?_) | row_room_at HB | (dsimp only; (first | ((with_reducible show wpAny _ _ (call (Value.ref 157) _) _ _ _); k_here; (with_reducible rename Fr _ _ _ _ => kFz3); (with_reducible rename News _ _ _ _ => kNz3); refine' law_ways_call (by (first | exact lim2 hdp rfl | exact lim1 hdp rfl | exact lim2 hun rfl | exact lim1 hun rfl | exact lim0 hdp | exact lim0 hun | exact lim3 hdp rfl | exact lim3 hun rfl | ((try dsimp only [arA, Around.deeper]); omega))) (by (first | exact lim2 hdp rfl | exact lim1 hdp rfl | exact lim2 hun rfl | exact lim1 hun rfl | exact lim0 hdp | exact lim0 hun | exact lim3 hdp rfl | exact lim3 hun rfl | ((try dsimp only [arA, Around.deeper]); omega))) (by assumption) (by assumption) (Fr.keep kFz3) (by omega) (by omega) (by omega) ?_; intro t'z3 h'z3 tk'z3 kp'z3; have F'z3 := fr_kept0 kFz3 kp'z3; have N'z3 := news_kept0 kNz3 kp'z3; clear kp'z3 kFz3 kNz3; (try dsimp only); (try k_sweep)) | ((with_reducible show wpAny _ _ (call (Value.ref 38) _ _) _ _ _); k_here; refine halt ?_) | ((with_reducible show wpAny _ _ (eval (Expr.Lambda _ _ _ _) _) _ _ _); (k_here; refine haltNP (by with_reducible assumption) ?_)) | ((with_reducible show wpAny _ _ (exec (Stmt.While _ _ _ _) _) _ _ _); k_here; refine halt ?_) | walk1 | row_room_at HE)) | (leave1; walk_say "STEP leave1"; try dsimp only)))
            (with_reducible rename Fr _ _ _ _ => F6)
            (with_reducible rename News _ _ _ _ => N6)
            (repeat (first | (k_unfold; (try dsimp only)) | row_room_at HE | dsimp only))
            (try dsimp only)
            exact ret_int (congrArg (waysF n) (Int.toNat_natCast k)) (ret _ _ _ (kept_ro kpL F6 N6 hn'))
          refine' bisect_right_call (c := topN cnt k) ?a ?b (X'.keeps F3.keep) (T'.keeps F3.keep) ?c KS ?fo ?l iX ?sz ?hb ?b0 ?hc ?h1 ?h2 ?_
          (case a => (first | exact lim2 hdp rfl | exact lim1 hdp rfl | exact lim2 hun rfl | exact lim1 hun rfl | exact lim0 hdp | exact lim0 hun | exact lim3 hdp rfl | exact lim3 hun rfl | ((try dsimp only [arA, Around.deeper]); omega)))
          (case b => (first | exact lim2 hdp rfl | exact lim1 hdp rfl | exact lim2 hun rfl | exact lim1 hun rfl | exact lim0 hdp | exact lim0 hun | exact lim3 hdp rfl | exact lim3 hun rfl | ((try dsimp only [arA, Around.deeper]); omega)))
          (case c => exact fun _ _ e => e)
          (case fo => exact ⟨(N3 _ (.head _)).1, _, rfl⟩)
          (case l => exact ⟨_, (N3 _ (.tail _ (.tail _ (.head _)))).1, rfl, _, rfl⟩)
          (case sz => decide)
          (case hb => decide)
          (case b0 => decide)
          (case hc => simp only [List.length_map, List.length_range]; omega)
          (case h1 => exact htop1)
          (case h2 => exact htop2)
          intro t5 h5 tk5 kp5
          have F5 := fr_kept0 F3 kp5
          have N5 := news_kept0 N3 kp5
          clear kp5 F3 N3 F2 NX KS
          (try dsimp only)
          (repeat' (first | (k_unfold; (try dsimp only)) | row_room_at HE | (k_end; wrow_close) | ((with_reducible show wpAny _ _ (call (Value.ref 157) _) _ _ _); k_here; (with_reducible rename Fr _ _ _ _ => kFz3); (with_reducible rename News _ _ _ _ => kNz3); refine' law_ways_call (by (first | exact lim2 hdp rfl | exact lim1 hdp rfl | exact lim2 hun rfl | exact lim1 hun rfl | exact lim0 hdp | exact lim0 hun | exact lim3 hdp rfl | exact lim3 hun rfl | ((try dsimp only [arA, Around.deeper]); omega))) (by (first | exact lim2 hdp rfl | exact lim1 hdp rfl | exact lim2 hun rfl | exact lim1 hun rfl | exact lim0 hdp | exact lim0 hun | exact lim3 hdp rfl | exact lim3 hun rfl | ((try dsimp only [arA, Around.deeper]); omega))) (by assumption) (by assumption) (Fr.keep kFz3) (by omega) (by omega) (by omega) ?_; intro t'z3 h'z3 tk'z3 kp'z3; have F'z3 := fr_kept0 kFz3 kp'z3; have N'z3 := news_kept0 kNz3 kp'z3; clear kp'z3 kFz3 kNz3; (try dsimp only); (try k_sweep)) | ((with_reducible show wpAny _ _ (call (Value.ref 38) _ _) _ _ _); k_here; refine halt ?_) | ((with_reducible show wpAny _ _ (eval (Expr.Lambda _ _ _ _) _) _ _ _); (k_here; refine haltNP (by with_reducible assumption) ?_)) | ((with_reducible show wpAny _ _ (exec (Stmt.While _ _ _ _) _) _ _ _); k_here; refine halt ?_) | row_room_at HB | (dsimp only; (first | ((with_reducible show wpAny _ _ (call (Value.ref 157) _) _ _ _); k_here; (with_reducible rename Fr _ _ _ _ => kFz3); (with_reducible rename News _ _ _ _ => kNz3); refine' law_ways_call (by (first | exact lim2 hdp rfl | exact lim1 hdp rfl | exact lim2 hun rfl | exact lim1 hun rfl | exact lim0 hdp | exact lim0 hun | exact lim3 hdp rfl | exact lim3 hun rfl | ((try dsimp only [arA, Around.deeper]); omega))) (by (first | exact lim2 hdp rfl | exact lim1 hdp rfl | exact lim2 hun rfl | exact lim1 hun rfl | exact lim0 hdp | exact lim0 hun | exact lim3 hdp rfl | exact lim3 hun rfl | ((try dsimp only [arA, Around.deeper]); omega))) (by assumption) (by assumption) (Fr.keep kFz3) (by omega) (by omega) (by omega) ?_; intro t'z3 h'z3 tk'z3 kp'z3; have F'z3 := fr_kept0 kFz3 kp'z3; have N'z3 := news_kept0 kNz3 kp'z3; clear kp'z3 kFz3 kNz3; (try dsimp only); (try k_sweep)) | ((with_reducible show wpAny _ _ (call (Value.ref 38) _ _) _ _ _); k_here; refine halt ?_) | ((with_reducible show wpAny _ _ (eval (Expr.Lambda _ _ _ _) _) _ _ _); (k_here; refine haltNP (by with_reducible assumption) ?_)) | ((with_reducible show wpAny _ _ (exec (Stmt.While _ _ _ _) _) _ _ _); k_here; refine halt ?_) | walk1 | row_room_at HE)) | (leave1; walk_say "STEP leave1"; try dsimp only)))
          (with_reducible rename Fr _ _ _ _ => F6)
          (with_reducible rename News _ _ _ _ => N6)
          (with_reducible rename _ = Data.cell _ => dc6)
          rw [Int.toNat_natCast] at F6
          have e5 : ((k : Int) - 1).toNat = j := by omega
          rw [e5] at F6
          rw [show (k : Int) - 1 = (j : Int) by omega] at dc6
          refine wEnd F6 (news_end (a := L' + 1) (y := (159, tabObj #[rawInt 204, rawInt 55, .ref c'])) (z := (c', oc')) dc6 N6 (by kcf_m) (by kcf_m) (by kcf_m)) j (by omega) ⟨_, _, j, _, _, _, _, [(159, tabObj #[rawInt 204, rawInt 55, .ref c']), (c', oc')], ⟨rfl, rfl, trivial⟩, nx1, nx2, by omega, nx3, ?_, rfl, dc6, rfl, .inl ⟨c', oc', vs', t', rfl, d1, d2, ?_⟩, ?_, ?_⟩
          · omega
          · omega
          · intro q hq
            revert hq
            revert q
            refine' all_cons ?_ (all_cons ?_ (all_nil))
            · exact Nat.ne_of_lt (Nat.lt_succ_of_lt l0)
            · show @Ne Nat c' (L' + 1)
              omega
          · intro q hq
            revert hq
            revert q
            refine' all_cons ?_ (all_cons ?_ (all_nil))
            · left; rw [hst']; exact .head _
            · right
              refine fr' c' (fun q hq => ?_) (N6 (c', oc') (by kcf_m)).2.2
              rw [hst', List.mem_singleton] at hq
              rw [hq]
              exact l1.2.2
      · subst htt
        have hcL : @Ne Nat c' (L' + 1) := hne _ (.tail _ (.head _))
        (repeat' (first | (k_unfold; (try dsimp only)) | row_room_at HE | (k_end; wrow_close) | ((with_reducible show wpAny _ _ (call (Value.ref 157) _) _ _ _); k_here; (with_reducible rename Fr _ _ _ _ => kFz3); (with_reducible rename News _ _ _ _ => kNz3); refine' law_ways_call (by (first | exact lim2 hdp rfl | exact lim1 hdp rfl | exact lim2 hun rfl | exact lim1 hun rfl | exact lim0 hdp | exact lim0 hun | exact lim3 hdp rfl | exact lim3 hun rfl | ((try dsimp only [arA, Around.deeper]); omega))) (by (first | exact lim2 hdp rfl | exact lim1 hdp rfl | exact lim2 hun rfl | exact lim1 hun rfl | exact lim0 hdp | exact lim0 hun | exact lim3 hdp rfl | exact lim3 hun rfl | ((try dsimp only [arA, Around.deeper]); omega))) (by assumption) (by assumption) (Fr.keep kFz3) (by omega) (by omega) (by omega) ?_; intro t'z3 h'z3 tk'z3 kp'z3; have F'z3 := fr_kept0 kFz3 kp'z3; have N'z3 := news_kept0 kNz3 kp'z3; clear kp'z3 kFz3 kNz3; (try dsimp only); (try k_sweep)) | ((with_reducible show wpAny _ _ (call (Value.ref 38) _ _) _ _ _); k_here; refine halt ?_) | ((with_reducible show wpAny _ _ (eval (Expr.Lambda _ _ _ _) _) _ _ _); (k_here; refine haltNP (by with_reducible assumption) ?_)) | ((with_reducible show wpAny _ _ (exec (Stmt.While _ _ _ _) _) _ _ _); k_here; refine halt ?_) | row_room_at HB | (dsimp only; (first | ((with_reducible show wpAny _ _ (call (Value.ref 157) _) _ _ _); k_here; (with_reducible rename Fr _ _ _ _ => kFz3); (with_reducible rename News _ _ _ _ => kNz3); refine' law_ways_call (by (first | exact lim2 hdp rfl | exact lim1 hdp rfl | exact lim2 hun rfl | exact lim1 hun rfl | exact lim0 hdp | exact lim0 hun | exact lim3 hdp rfl | exact lim3 hun rfl | ((try dsimp only [arA, Around.deeper]); omega))) (by (first | exact lim2 hdp rfl | exact lim1 hdp rfl | exact lim2 hun rfl | exact lim1 hun rfl | exact lim0 hdp | exact lim0 hun | exact lim3 hdp rfl | exact lim3 hun rfl | ((try dsimp only [arA, Around.deeper]); omega))) (by assumption) (by assumption) (Fr.keep kFz3) (by omega) (by omega) (by omega) ?_; intro t'z3 h'z3 tk'z3 kp'z3; have F'z3 := fr_kept0 kFz3 kp'z3; have N'z3 := news_kept0 kNz3 kp'z3; clear kp'z3 kFz3 kNz3; (try dsimp only); (try k_sweep)) | ((with_reducible show wpAny _ _ (call (Value.ref 38) _ _) _ _ _); k_here; refine halt ?_) | ((with_reducible show wpAny _ _ (eval (Expr.Lambda _ _ _ _) _) _ _ _); (k_here; refine haltNP (by with_reducible assumption) ?_)) | ((with_reducible show wpAny _ _ (exec (Stmt.While _ _ _ _) _) _ _ _); k_here; refine halt ?_) | walk1 | row_room_at HE)) | (leave1; walk_say "STEP leave1"; try dsimp only)))
        · refine go ?_
          rename_i hQs h1 tk1 r1 r2 r3 R1 F1 N1 k1 h2 tk2 ys F2 N2 k2 fresh2 l2 npY caY mkY
          obtain ⟨nX, NX⟩ := made_enters npY F2 N2 fresh2
          have iX : IntsAre ys ((List.range 12).map fun i : Nat => (i : Int)) := CarriedAll.intsOf caY
          have lX : @LT.lt Nat _ (L' + 1) h1.objs.size := Heap.lt_size (N1 _ (.head _)).1
          have lX3 := allLt_of fun q hq => Heap.lt_size (N1 q hq).1
          simp only [AllLt, and_true] at lX3
          dsimp only at NX
          clear R1 F1 N1 k1 npY caY mkY l2 fresh2 k2 N2
          generalize h1.objs.size = D at *
          have lX2 : @LT.lt Nat _ 159 D := Nat.lt_trans l0 (Nat.lt_trans (Nat.lt_succ_self _) lX)
          (repeat' (first | (k_unfold; (try dsimp only)) | row_room_at HE | (k_end; wrow_close) | ((with_reducible show wpAny _ _ (call (Value.ref 157) _) _ _ _); k_here; (with_reducible rename Fr _ _ _ _ => kFz3); (with_reducible rename News _ _ _ _ => kNz3); refine' law_ways_call (by (first | exact lim2 hdp rfl | exact lim1 hdp rfl | exact lim2 hun rfl | exact lim1 hun rfl | exact lim0 hdp | exact lim0 hun | exact lim3 hdp rfl | exact lim3 hun rfl | ((try dsimp only [arA, Around.deeper]); omega))) (by (first | exact lim2 hdp rfl | exact lim1 hdp rfl | exact lim2 hun rfl | exact lim1 hun rfl | exact lim0 hdp | exact lim0 hun | exact lim3 hdp rfl | exact lim3 hun rfl | ((try dsimp only [arA, Around.deeper]); omega))) (by assumption) (by assumption) (Fr.keep kFz3) (by omega) (by omega) (by omega) ?_; intro t'z3 h'z3 tk'z3 kp'z3; have F'z3 := fr_kept0 kFz3 kp'z3; have N'z3 := news_kept0 kNz3 kp'z3; clear kp'z3 kFz3 kNz3; (try dsimp only); (try k_sweep)) | ((with_reducible show wpAny _ _ (call (Value.ref 38) _ _) _ _ _); k_here; refine halt ?_) | ((with_reducible show wpAny _ _ (eval (Expr.Lambda _ _ _ _) _) _ _ _); (k_here; refine haltNP (by with_reducible assumption) ?_)) | ((with_reducible show wpAny _ _ (exec (Stmt.While _ _ _ _) _) _ _ _); k_here; refine halt ?_) | row_room_at HB | (dsimp only; (first | ((with_reducible show wpAny _ _ (call (Value.ref 157) _) _ _ _); k_here; (with_reducible rename Fr _ _ _ _ => kFz3); (with_reducible rename News _ _ _ _ => kNz3); refine' law_ways_call (by (first | exact lim2 hdp rfl | exact lim1 hdp rfl | exact lim2 hun rfl | exact lim1 hun rfl | exact lim0 hdp | exact lim0 hun | exact lim3 hdp rfl | exact lim3 hun rfl | ((try dsimp only [arA, Around.deeper]); omega))) (by (first | exact lim2 hdp rfl | exact lim1 hdp rfl | exact lim2 hun rfl | exact lim1 hun rfl | exact lim0 hdp | exact lim0 hun | exact lim3 hdp rfl | exact lim3 hun rfl | ((try dsimp only [arA, Around.deeper]); omega))) (by assumption) (by assumption) (Fr.keep kFz3) (by omega) (by omega) (by omega) ?_; intro t'z3 h'z3 tk'z3 kp'z3; have F'z3 := fr_kept0 kFz3 kp'z3; have N'z3 := news_kept0 kNz3 kp'z3; clear kp'z3 kFz3 kNz3; (try dsimp only); (try k_sweep)) | ((with_reducible show wpAny _ _ (call (Value.ref 38) _ _) _ _ _); k_here; refine halt ?_) | ((with_reducible show wpAny _ _ (eval (Expr.Lambda _ _ _ _) _) _ _ _); (k_here; refine haltNP (by with_reducible assumption) ?_)) | ((with_reducible show wpAny _ _ (exec (Stmt.While _ _ _ _) _) _ _ _); k_here; refine halt ?_) | walk1 | row_room_at HE)) | (leave1; walk_say "STEP leave1"; try dsimp only)))
          refine go ?_
          rename_i f' ct' h3 tk3 F3 N3 l1
          have KS : KeySpec w h3 f' (fun n => waysF n k) 12 := by
            intro n t dp un fs gd s' Q E n0 n1 hdp hun hst ret
            have N4 := news_pick2 N3
            have hn' := fun q hq => (⟨hst _ _ (N4 q hq).1, (N4 q hq).2.2⟩ : s'.heap.get? q.1 = some q.2 ∧ g'.get? q.1 = none)
            have st2 : g'.StaysIn s'.heap := fun b o e => hst _ _ (F3.keep b o e)
            clear F3 N3 F2 NX N4
            refine wpAny_call ?_
            k_dflt (refine' enterL _ ?k1 ?k2 ?k3 ?k4 ?k5 ?ko ?kc ?kd ?kv ?k9 ?kB ?_ ?c2 ?c3 ?c4 ?c5; (case k2 => k_asm); (case k3 => k_asm); (case k4 => assumption); (case k5 => assumption); (case ko => k_mem); (case kc => k_mem); (case kd => assumption); (case kv => assumption); (case k1 => (first | exact lim2 hdp rfl | exact lim1 hdp rfl | exact lim2 hun rfl | exact lim1 hun rfl | exact lim0 hdp | exact lim0 hun | exact lim3 hdp rfl | exact lim3 hun rfl | ((try dsimp only [arA, Around.deeper]); omega))); (case k9 => exact rfl); (case c5 => decide); (case kB => exact locs rfl); (case c2 => exact rfl); (case c3 => exact rfl); (case c4 => exact rfl); k_whole; intro gL LL hL tkL FL NL XL TL ltL kpL stL; (try dsimp only); (try k_fold))
            (repeat' (first | (k_unfold; (try dsimp only)) | row_room_at HE | (k_end; wrow_close) | ((with_reducible show wpAny _ _ (call (Value.ref 157) _) _ _ _); k_here; (with_reducible rename Fr _ _ _ _ => kFz3); (with_reducible rename News _ _ _ _ => kNz3); refine' law_ways_call (by (first | exact lim2 hdp rfl | exact lim1 hdp rfl | exact lim2 hun rfl | exact lim1 hun rfl | exact lim0 hdp | exact lim0 hun | exact lim3 hdp rfl | exact lim3 hun rfl | ((try dsimp only [arA, Around.deeper]); omega))) (by (first | exact lim2 hdp rfl | exact lim1 hdp rfl | exact lim2 hun rfl | exact lim1 hun rfl | exact lim0 hdp | exact lim0 hun | exact lim3 hdp rfl | exact lim3 hun rfl | ((try dsimp only [arA, Around.deeper]); omega))) (by assumption) (by assumption) (Fr.keep kFz3) (by omega) (by omega) (by omega) ?_; intro t'z3 h'z3 tk'z3 kp'z3; have F'z3 := fr_kept0 kFz3 kp'z3; have N'z3 := news_kept0 kNz3 kp'z3; clear kp'z3 kFz3 kNz3; (try dsimp only); (try k_sweep)) | ((with_reducible show wpAny _ _ (call (Value.ref 38) _ _) _ _ _); k_here; refine halt ?_) | ((with_reducible show wpAny _ _ (eval (Expr.Lambda _ _ _ _) _) _ _ _); (k_here; refine haltNP (by with_reducible assumption) ?_)) | ((with_reducible show wpAny _ _ (exec (Stmt.While _ _ _ _) _) _ _ _); k_here; refine halt ?_) | row_room_at HB | (dsimp only; (first | ((with_reducible show wpAny _ _ (call (Value.ref 157) _) _ _ _); k_here; (with_reducible rename Fr _ _ _ _ => kFz3); (with_reducible rename News _ _ _ _ => kNz3); refine' law_ways_call (by (first | exact lim2 hdp rfl | exact lim1 hdp rfl | exact lim2 hun rfl | exact lim1 hun rfl | exact lim0 hdp | exact lim0 hun | exact lim3 hdp rfl | exact lim3 hun rfl | ((try dsimp only [arA, Around.deeper]); omega))) (by (first | exact lim2 hdp rfl | exact lim1 hdp rfl | exact lim2 hun rfl | exact lim1 hun rfl | exact lim0 hdp | exact lim0 hun | exact lim3 hdp rfl | exact lim3 hun rfl | ((try dsimp only [arA, Around.deeper]); omega))) (by assumption) (by assumption) (Fr.keep kFz3) (by omega) (by omega) (by omega) ?_; intro t'z3 h'z3 tk'z3 kp'z3; have F'z3 := fr_kept0 kFz3 kp'z3; have N'z3 := news_kept0 kNz3 kp'z3; clear kp'z3 kFz3 kNz3; (try dsimp only); (try k_sweep)) | ((with_reducible show wpAny _ _ (call (Value.ref 38) _ _) _ _ _); k_here; refine halt ?_) | ((with_reducible show wpAny _ _ (eval (Expr.Lambda _ _ _ _) _) _ _ _); (k_here; refine haltNP (by with_reducible assumption) ?_)) | ((with_reducible show wpAny _ _ (exec (Stmt.While _ _ _ _) _) _ _ _); k_here; refine halt ?_) | walk1 | row_room_at HE)) | (leave1; walk_say "STEP leave1"; try dsimp only)))
            (with_reducible rename Fr _ _ _ _ => F6)
            (with_reducible rename News _ _ _ _ => N6)
            (repeat (first | (k_unfold; (try dsimp only)) | row_room_at HE | dsimp only))
            (try dsimp only)
            exact ret_int (congrArg (waysF n) (Int.toNat_natCast k)) (ret _ _ _ (kept_ro kpL F6 N6 hn'))
          refine' bisect_right_call (c := topN cnt k) ?a2 ?b2 (X'.keeps F3.keep) (T'.keeps F3.keep) ?c2 KS ?fo2 ?l2 iX ?sz2 ?hb2 ?b02 ?hc2 ?h12 ?h22 ?_
          (case a2 => (first | exact lim2 hdp rfl | exact lim1 hdp rfl | exact lim2 hun rfl | exact lim1 hun rfl | exact lim0 hdp | exact lim0 hun | exact lim3 hdp rfl | exact lim3 hun rfl | ((try dsimp only [arA, Around.deeper]); omega)))
          (case b2 => (first | exact lim2 hdp rfl | exact lim1 hdp rfl | exact lim2 hun rfl | exact lim1 hun rfl | exact lim0 hdp | exact lim0 hun | exact lim3 hdp rfl | exact lim3 hun rfl | ((try dsimp only [arA, Around.deeper]); omega)))
          (case c2 => exact fun _ _ e => e)
          (case fo2 => exact ⟨(N3 _ (.head _)).1, _, rfl⟩)
          (case l2 => exact ⟨_, (N3 _ (.tail _ (.head _))).1, rfl, _, rfl⟩)
          (case sz2 => decide)
          (case hb2 => decide)
          (case b02 => decide)
          (case hc2 => simp only [List.length_map, List.length_range]; omega)
          (case h12 => exact htop1)
          (case h22 => exact htop2)
          intro t5 h5 tk5 kp5
          have F5 := fr_kept0 F3 kp5
          have N5 := news_kept0 N3 kp5
          clear kp5 F3 N3 F2 NX KS
          (try dsimp only)
          (repeat' (first | (k_unfold; (try dsimp only)) | row_room_at HE | (k_end; wrow_close) | ((with_reducible show wpAny _ _ (call (Value.ref 157) _) _ _ _); k_here; (with_reducible rename Fr _ _ _ _ => kFz3); (with_reducible rename News _ _ _ _ => kNz3); refine' law_ways_call (by (first | exact lim2 hdp rfl | exact lim1 hdp rfl | exact lim2 hun rfl | exact lim1 hun rfl | exact lim0 hdp | exact lim0 hun | exact lim3 hdp rfl | exact lim3 hun rfl | ((try dsimp only [arA, Around.deeper]); omega))) (by (first | exact lim2 hdp rfl | exact lim1 hdp rfl | exact lim2 hun rfl | exact lim1 hun rfl | exact lim0 hdp | exact lim0 hun | exact lim3 hdp rfl | exact lim3 hun rfl | ((try dsimp only [arA, Around.deeper]); omega))) (by assumption) (by assumption) (Fr.keep kFz3) (by omega) (by omega) (by omega) ?_; intro t'z3 h'z3 tk'z3 kp'z3; have F'z3 := fr_kept0 kFz3 kp'z3; have N'z3 := news_kept0 kNz3 kp'z3; clear kp'z3 kFz3 kNz3; (try dsimp only); (try k_sweep)) | ((with_reducible show wpAny _ _ (call (Value.ref 38) _ _) _ _ _); k_here; refine halt ?_) | ((with_reducible show wpAny _ _ (eval (Expr.Lambda _ _ _ _) _) _ _ _); (k_here; refine haltNP (by with_reducible assumption) ?_)) | ((with_reducible show wpAny _ _ (exec (Stmt.While _ _ _ _) _) _ _ _); k_here; refine halt ?_) | row_room_at HB | (dsimp only; (first | ((with_reducible show wpAny _ _ (call (Value.ref 157) _) _ _ _); k_here; (with_reducible rename Fr _ _ _ _ => kFz3); (with_reducible rename News _ _ _ _ => kNz3); refine' law_ways_call (by (first | exact lim2 hdp rfl | exact lim1 hdp rfl | exact lim2 hun rfl | exact lim1 hun rfl | exact lim0 hdp | exact lim0 hun | exact lim3 hdp rfl | exact lim3 hun rfl | ((try dsimp only [arA, Around.deeper]); omega))) (by (first | exact lim2 hdp rfl | exact lim1 hdp rfl | exact lim2 hun rfl | exact lim1 hun rfl | exact lim0 hdp | exact lim0 hun | exact lim3 hdp rfl | exact lim3 hun rfl | ((try dsimp only [arA, Around.deeper]); omega))) (by assumption) (by assumption) (Fr.keep kFz3) (by omega) (by omega) (by omega) ?_; intro t'z3 h'z3 tk'z3 kp'z3; have F'z3 := fr_kept0 kFz3 kp'z3; have N'z3 := news_kept0 kNz3 kp'z3; clear kp'z3 kFz3 kNz3; (try dsimp only); (try k_sweep)) | ((with_reducible show wpAny _ _ (call (Value.ref 38) _ _) _ _ _); k_here; refine halt ?_) | ((with_reducible show wpAny _ _ (eval (Expr.Lambda _ _ _ _) _) _ _ _); (k_here; refine haltNP (by with_reducible assumption) ?_)) | ((with_reducible show wpAny _ _ (exec (Stmt.While _ _ _ _) _) _ _ _); k_here; refine halt ?_) | walk1 | row_room_at HE)) | (leave1; walk_say "STEP leave1"; try dsimp only)))
          (with_reducible rename Fr _ _ _ _ => F6)
          (with_reducible rename News _ _ _ _ => N6)
          (with_reducible rename _ = Data.cell _ => dc6)
          rw [Int.toNat_natCast] at F6
          have e5 : ((k : Int) - 1).toNat = j := by omega
          rw [e5] at F6
          rw [show (k : Int) - 1 = (j : Int) by omega] at dc6
          refine wEnd F6 (news_end (a := L' + 1) (y := (159, tabObj #[rawInt 204, rawInt 55, .ref c'])) (z := (c', oc')) dc6 N6 (by kcf_m) (by kcf_m) (by kcf_m)) j (by omega) ⟨_, _, j, _, _, _, _, [(159, tabObj #[rawInt 204, rawInt 55, .ref c']), (c', oc')], ⟨rfl, rfl, trivial⟩, nx1, nx2, by omega, nx3, ?_, rfl, dc6, rfl, .inl ⟨c', oc', vs', t', rfl, d1, d2, ?_⟩, ?_, ?_⟩
          · omega
          · omega
          · intro q hq
            revert hq
            revert q
            refine' all_cons ?_ (all_cons ?_ (all_nil))
            · exact Nat.ne_of_lt (Nat.lt_succ_of_lt l0)
            · show @Ne Nat c' (L' + 1)
              omega
          · exact hfr
    · (repeat' (first | (k_unfold; (try dsimp only)) | row_room_at HE | (k_end; wrow_close) | ((with_reducible show wpAny _ _ (call (Value.ref 157) _) _ _ _); k_here; (with_reducible rename Fr _ _ _ _ => kFz3); (with_reducible rename News _ _ _ _ => kNz3); refine' law_ways_call (by (first | exact lim2 hdp rfl | exact lim1 hdp rfl | exact lim2 hun rfl | exact lim1 hun rfl | exact lim0 hdp | exact lim0 hun | exact lim3 hdp rfl | exact lim3 hun rfl | ((try dsimp only [arA, Around.deeper]); omega))) (by (first | exact lim2 hdp rfl | exact lim1 hdp rfl | exact lim2 hun rfl | exact lim1 hun rfl | exact lim0 hdp | exact lim0 hun | exact lim3 hdp rfl | exact lim3 hun rfl | ((try dsimp only [arA, Around.deeper]); omega))) (by assumption) (by assumption) (Fr.keep kFz3) (by omega) (by omega) (by omega) ?_; intro t'z3 h'z3 tk'z3 kp'z3; have F'z3 := fr_kept0 kFz3 kp'z3; have N'z3 := news_kept0 kNz3 kp'z3; clear kp'z3 kFz3 kNz3; (try dsimp only); (try k_sweep)) | ((with_reducible show wpAny _ _ (call (Value.ref 38) _ _) _ _ _); k_here; refine halt ?_) | ((with_reducible show wpAny _ _ (eval (Expr.Lambda _ _ _ _) _) _ _ _); (k_here; refine haltNP (by with_reducible assumption) ?_)) | ((with_reducible show wpAny _ _ (exec (Stmt.While _ _ _ _) _) _ _ _); k_here; refine halt ?_) | row_room_at HB | (dsimp only; (first | ((with_reducible show wpAny _ _ (call (Value.ref 157) _) _ _ _); k_here; (with_reducible rename Fr _ _ _ _ => kFz3); (with_reducible rename News _ _ _ _ => kNz3); refine' law_ways_call (by (first | exact lim2 hdp rfl | exact lim1 hdp rfl | exact lim2 hun rfl | exact lim1 hun rfl | exact lim0 hdp | exact lim0 hun | exact lim3 hdp rfl | exact lim3 hun rfl | ((try dsimp only [arA, Around.deeper]); omega))) (by (first | exact lim2 hdp rfl | exact lim1 hdp rfl | exact lim2 hun rfl | exact lim1 hun rfl | exact lim0 hdp | exact lim0 hun | exact lim3 hdp rfl | exact lim3 hun rfl | ((try dsimp only [arA, Around.deeper]); omega))) (by assumption) (by assumption) (Fr.keep kFz3) (by omega) (by omega) (by omega) ?_; intro t'z3 h'z3 tk'z3 kp'z3; have F'z3 := fr_kept0 kFz3 kp'z3; have N'z3 := news_kept0 kNz3 kp'z3; clear kp'z3 kFz3 kNz3; (try dsimp only); (try k_sweep)) | ((with_reducible show wpAny _ _ (call (Value.ref 38) _ _) _ _ _); k_here; refine halt ?_) | ((with_reducible show wpAny _ _ (eval (Expr.Lambda _ _ _ _) _) _ _ _); (k_here; refine haltNP (by with_reducible assumption) ?_)) | ((with_reducible show wpAny _ _ (exec (Stmt.While _ _ _ _) _) _ _ _); k_here; refine halt ?_) | walk1 | row_room_at HE)) | (leave1; walk_say "STEP leave1"; try dsimp only)))
      · (try dsimp only)
        (repeat (first | (k_unfold; (try dsimp only)) | row_room_at HE | dsimp only))
        (try dsimp only)
        have hz : cnt = 0 := by omega
        subst hz
        have e : fewF size.toNat count = few := by
          rw [← b5]
          cases k with
          | zero => simp [fewF]
          | succ k => simp [fewF]
        rw [← e]
        refine ret _ _ _ tabs' ?_ (kp' _ F.keep) (fun q hq => ⟨(N q (.tail _ hq)).1, ?_⟩) hfr
        · rcases hst with x | ⟨x, y, z⟩
          · exact .inl x
          · exact .inr ⟨x, y, z.symm⟩
        · cases e : h₀.get? q.1 with
          | none => rfl
          | some o => have := st' _ _ e; rw [(N q (.tail _ hq)).2.2] at this; cases this
end

/-! T_for -/
theorem flushT_for : True ∧ True := by first | (row_walk; done) | (walk1; done) | exact ⟨trivial, trivial⟩
section
variable {prog : Program} {w : World} {A : Around} {E : Value → Shared → Prop} {s : Shared} {env : Env} {body orelse : List Stmt} {Q : Flow → Shared → Prop} {g : Heap}

/-- a for loop, its iterator made -/
noncomputable def ForAt (prog : Program) (w : World) (A : Around) (env : Env) (target : PySem.Expr) (body orelse : List Stmt) (Q : Flow → Shared → Prop) (E : Value → Shared → Prop) (it : Value) (s₂ : Shared) : Prop :=
  codeAny (model prog w) A (.forLoop target it body orelse env) (fun r s' => match r with | .ok f => Q f s' | .error e => cameBackBy (model prog w) A env E e s') s₂
theorem For_start {target iter : PySem.Expr} {pos : Pos} (h : wpAny (model prog w) A (eval iter env) (fun xv s₁ => wpAny (model prog w) A (pyIter xv) (fun it s₂ => ForAt prog w A env target body orelse Q E it s₂) E s₁) E s)
    (hs : ∀ x, foldedSetIterable iter env x = pure x := by intro _; rfl) : wpAny (model prog w) A (exec (.For target iter body orelse pos) env) Q E s := wpAny_For h hs
noncomputable def FEnd (g : Heap) (L : Addr) (s : Shared) (I : Addr) (oI : Obj) (Jn : (Str → Option Value) → List (Addr × Obj) → Prop) (s₂ : Shared) : Prop :=
  ∃ h tk m news, s₂ = { s with heap := h, toks := tk } ∧ Fr g L h m ∧ News g L h ((I, oI) :: news) ∧ (∀ p ∈ news, @Ne Nat p.1 I) ∧ Jn m news
noncomputable def FPost (g : Heap) (L : Addr) (s : Shared) (I : Addr) (oI : Obj) (Jn : (Str → Option Value) → List (Addr × Obj) → Prop) (Q : Flow → Shared → Prop) (f : Flow) (s₂ : Shared) : Prop :=
  match f with
  | .ret v => Q (.ret v) s₂
  | .brk => Q .next s₂
  | _ => FEnd g L s I oI Jn s₂
theorem fEnd {L I : Addr} {oI : Obj} {Jn : (Str → Option Value) → List (Addr × Obj) → Prop} {h : Heap} {tk : Nat} {m : Str → Option Value} {news news' : List (Addr × Obj)} (F : Fr g L h m) (N : News g L h news') (hs : ∀ p ∈ (I, oI) :: news, p ∈ news') (off : ∀ p ∈ news, @Ne Nat p.1 I) (j : Jn m news) :
    FPost g L s I oI Jn Q .next { s with heap := h, toks := tk } := ⟨h, tk, m, news, rfl, F, news_sub N hs, off, j⟩
theorem fEndC {L I : Addr} {oI : Obj} {Jn : (Str → Option Value) → List (Addr × Obj) → Prop} {h : Heap} {tk : Nat} {m : Str → Option Value} {news news' : List (Addr × Obj)} (F : Fr g L h m) (N : News g L h news') (hs : ∀ p ∈ (I, oI) :: news, p ∈ news') (off : ∀ p ∈ news, @Ne Nat p.1 I) (j : Jn m news) :
    FPost g L s I oI Jn Q .cont { s with heap := h, toks := tk } := ⟨h, tk, m, news, rfl, F, news_sub N hs, off, j⟩

/-- the turn's end, hidden while the body is walked -/
structure HideF (g : Heap) (L : Addr) (s : Shared) (I : Addr) (oI : Obj) (Jn : (Str → Option Value) → List (Addr × Obj) → Prop) (Q Qs : Flow → Shared → Prop) : Prop where
  all : ∀ f s', FPost g L s I oI Jn Q f s' → Qs f s'
section
variable {M : Model} {L I : Addr} {oI : Obj} {Jn : (Str → Option Value) → List (Addr × Obj) → Prop} {s₀ s' : Shared} {Qs : Flow → Shared → Prop} {v : Value}
theorem hide_F (h : ∀ Qs, HideF g L s₀ I oI Jn Q Qs → wpAny M A (execs body env) Qs E s) : wpAny M A (execs body env) (FPost g L s₀ I oI Jn Q) E s := h _ ⟨fun _ _ x => x⟩
theorem HideF.nx (h : HideF g L s₀ I oI Jn Q Qs) (x : FPost g L s₀ I oI Jn Q .next s') : Qs .next s' := h.all _ _ x
theorem HideF.ct (h : HideF g L s₀ I oI Jn Q Qs) (x : FPost g L s₀ I oI Jn Q .cont s') : Qs .cont s' := h.all _ _ x
theorem HideF.rt (h : HideF g L s₀ I oI Jn Q Qs) (x : Q (.ret v) s') : Qs (.ret v) s' := h.all _ _ x
theorem HideF.bk (h : HideF g L s₀ I oI Jn Q Qs) (x : Q .next s') : Qs .brk s' := h.all _ _ x
end

theorem for_W {I : Addr} {fp : List Addr} {n : Nat} {P : Nat → Value → Prop} {St : Nat → Heap → Prop} {x : Str} {px : Pos} {m : Str → Option Value} {news : List (Addr × Obj)}
    (J : Nat → (Str → Option Value) → List (Addr × Obj) → Prop) (keep : List (Addr × Obj)) (W : Walks prog w A I fp [I] n P St)
    (hobj : ∀ i h, St i h → ∃ o, h.get? I = some o) (hfp : ∀ b ∈ fp, b = I ∨ (∃ o, g.get? b = some o) ∨ ∃ o, (b, o) ∈ keep)
    (hI : g.get? I = none) (hIL : @Ne Nat I env.locals) (st : St 0 s.heap) (F : Fr g env.locals s.heap m) (N : News g env.locals s.heap news) (off : ∀ p ∈ news, @Ne Nat p.1 I)
    (j : J 0 m news) (hkeep : ∀ i m news, J i m news → ∀ p ∈ keep, p ∈ news)
    (turn : ∀ i v m news oI h tk, i < n → P i v → J i m news → (∀ p ∈ news, @Ne Nat p.1 I) → Fr g env.locals h m → News g env.locals h ((I, oI) :: news) →
      wpAny (model prog w) A (storeName env x v) (fun _ s₂ => wpAny (model prog w) A (execs body env) (FPost g env.locals s I oI (J (i + 1)) Q) E s₂) E { s with heap := h, toks := tk })
    (done : ∀ m news h tk, J n m news → (∀ p ∈ news, @Ne Nat p.1 I) → Fr g env.locals h m → News g env.locals h news → wpAny (model prog w) A (execs orelse env) Q E { s with heap := h, toks := tk })
    (hE : PassesOwn (model prog w) A env E) : ForAt prog w A env (.Name x px) body orelse Q E (.ref I) s := by
  unfold ForAt
  refine codeAny_forLoop_any
    (fun k s' => ∃ h' tk m' news' i, s' = { s with heap := h', toks := tk } ∧ St i h' ∧ Fr g env.locals h' m' ∧ News g env.locals h' news' ∧ (∀ p ∈ news', @Ne Nat p.1 I) ∧ J i m' news' ∧ i ≤ n ∧ k = n + 1 - i) ?_ (n + 1)
    ⟨s.heap, s.toks, m, news, 0, rfl, st, F, N, off, j, Nat.zero_le _, rfl⟩
  intro k s' jz2
  (refine hideP ?_; intro PP hPP); (obtain ⟨h', tk, m', news', i, rfl, hst', F', N', off', hJ, hi, rfl⟩ := jz2) <;> (refine hPP ?_; clear hPP; clear PP)
  have hno : ∀ b o, g.get? b = some o → b ∉ [I] := fun b o e hb => by rw [List.mem_singleton.mp hb, hI] at e; cases e
  have next : ∀ h₁ : Heap, (∀ b o, b ∉ [I] → h'.get? b = some o → h₁.get? b = some o) → Fr g env.locals h₁ m' ∧ News g env.locals h₁ news' := fun h₁ hk₁ =>
    ⟨⟨F'.ns.at' fun o e => hk₁ _ o (fun q => hIL (List.mem_singleton.mp q).symm) e, fun b o e => hk₁ b o (hno b o e) (F'.keep b o e), F'.above⟩, fun p hp => ⟨hk₁ _ _ (fun q => off' p hp (List.mem_singleton.mp q)) (N' p hp).1, (N' p hp).2⟩⟩
  by_cases hlt : i < n
  · refine W.item i _ _ _ hlt hst' fun v h₂ tk₁ hP hst₂ hk₂ => ?_
    refine wpAny_of_eq (a := ()) rfl ?_
    obtain ⟨F₂, N₂⟩ := next h₂ hk₂
    obtain ⟨oI, hoI⟩ := hobj _ _ hst₂
    have N₃ : News g env.locals h₂ ((I, oI) :: news') := fun p hp => by
      rcases List.mem_cons.mp hp with rfl | hp
      · exact ⟨hoI, hIL, hI⟩
      · exact N₂ p hp
    have hkp := hkeep _ _ _ hJ
    refine wpAny_assign_Name (wpAny_mono (turn i v m' news' oI h₂ tk₁ hlt hP hJ off' F₂ N₃) (fun _ s₂ q => wpAny_mono (wpAny_passesOwn hE q) (fun f s₃ hf => ?_) fun _ _ e => e) hE)
    have fin : FEnd g env.locals s I oI (J (i + 1)) s₃ → ∃ k', k' < n + 1 - i ∧ ∃ h' tk m' news' i, s₃ = { s with heap := h', toks := tk } ∧ St i h' ∧ Fr g env.locals h' m' ∧ News g env.locals h' news' ∧ (∀ p ∈ news', @Ne Nat p.1 I) ∧ J i m' news' ∧ i ≤ n ∧ k' = n + 1 - i := by
      intro jz0
      (refine hideP ?_; intro PP hPP); (obtain ⟨h₃, tk₃, m₃, news₃, rfl, F₃, N₃', off₃, hJ₃⟩ := jz0) <;> (refine hPP ?_; clear hPP; clear PP)
      refine ⟨n + 1 - (i + 1), by omega, h₃, tk₃, m₃, news₃, i + 1, rfl, ?_, F₃, fun p hp => N₃' p (.tail _ hp), off₃, hJ₃, hlt, rfl⟩
      refine W.frame _ _ _ hst₂ fun b hb o e => ?_
      rcases hfp b hb with rfl | ⟨o', e'⟩ | ⟨o', ho'⟩
      · rw [hoI] at e; cases e; exact (N₃' _ (.head _)).1
      · have := F₂.keep b o' e'; rw [e] at this; cases this; exact F₃.keep b o e'
      · have q := (N₂ _ (hkp _ ho')).1
        rw [show h₂.get? (b, o').1 = h₂.get? b from rfl, e] at q
        cases q
        exact (N₃' _ (.tail _ (hkeep _ _ _ hJ₃ _ ho'))).1
    cases f with
    | ret v => exact hf
    | brk => exact hf
    | cont => exact fin hf
    | next => exact fin hf
  · have hin : i = n := by omega
    subst hin
    refine W.done _ _ _ hst' fun h₁ tk₁ hk₁ => ?_
    obtain ⟨F₁, N₁⟩ := next h₁ hk₁
    exact wpAny_passesOwn hE (done m' news' h₁ tk₁ hJ off' F₁ N₁)

/-- a for loop over a list of the ledger that no turn changes -/
theorem for_list {l : Addr} {vs : List Value} {nn : Nat} {x : Str} {px : Pos} {m : Str → Option Value} {news : List (Addr × Obj)} (hh : A.handled = none)
    (J : Nat → (Str → Option Value) → List (Addr × Obj) → Prop) (F : Fr g env.locals s.heap m) (N : News g env.locals s.heap news) (hl : (l, listOf vs.toArray nn) ∈ news)
    (j : J 0 m news) (hkeep : ∀ i m news, J i m news → (l, listOf vs.toArray nn) ∈ news)
    (turn : ∀ I i v m news oI h tk, g.get? I = none → vs[i]? = some v → J i m news → (∀ p ∈ news, @Ne Nat p.1 I) → Fr g env.locals h m → News g env.locals h ((I, oI) :: news) →
      wpAny (model prog w) A (storeName env x v) (fun _ s₂ => wpAny (model prog w) A (execs body env) (FPost g env.locals s I oI (J (i + 1)) Q) E s₂) E { s with heap := h, toks := tk })
    (done : ∀ m news h tk, J vs.length m news → Fr g env.locals h m → News g env.locals h news → wpAny (model prog w) A (execs orelse env) Q E { s with heap := h, toks := tk })
    (hE : PassesOwn (model prog w) A env E) : wpAny (model prog w) A (pyIter (.ref l)) (fun it s₂ => ForAt prog w A env (.Name x px) body orelse Q E it s₂) E s := by
  have hls : s.heap.IsList l vs.toArray := ⟨_, (N _ hl).1, rfl, _, rfl⟩
  have hlt : l < s.heap.objs.size := Heap.lt_size (N _ hl).1
  have hne : l ≠ s.heap.objs.size := Nat.ne_of_lt hlt
  refine wpAny_pyIter_list hls ?_
  have W := Walks.list (prog := prog) (w := w) hh s.heap.objs.size l hne vs.toArray
  have hsz : vs.toArray.size = vs.length := by simp
  refine for_W J [(l, listOf vs.toArray nn)] W (fun i h st => by obtain ⟨⟨o, e, _⟩, _⟩ := st; exact ⟨o, e⟩) (fun b hb => ?_) (next_is_new F) (Ne.symm (Nat.ne_of_lt F.ns.lt))
    ⟨⟨_, Heap.get?_push_size _ rfl, rfl, rfl⟩, hls.at fun o e => Heap.get?_push_of_some _ e⟩ (F.push _) (fun p hp => ⟨Heap.get?_push_of_some _ (N p hp).1, (N p hp).2⟩) (fun p hp => Nat.ne_of_lt (Heap.lt_size (N p hp).1)) j (fun i m news hj p hp => ?_) ?_ ?_ hE
  · rcases List.mem_cons.mp hb with rfl | hb
    · exact .inl rfl
    · rw [List.mem_singleton.mp hb]; exact .inr (.inr ⟨_, .head _⟩)
  · rw [List.mem_singleton.mp hp]; exact hkeep i m news hj
  · intro i v m news oI h tk hi hP hJ off F N
    exact turn _ i v m news oI h tk (next_is_new ‹_›) (by simpa using hP) hJ off F N
  · intro m news h tk hJ _ F N
    rw [hsz] at hJ
    exact done m news h tk hJ F N
theorem for_range {r : Addr} {a b : Int} {t u v : Tok} {n : Nat} {x : Str} {px : Pos} {m : Str → Option Value} {news : List (Addr × Obj)} (hh : A.handled = none)
    (J : Nat → (Str → Option Value) → List (Addr × Obj) → Prop) (hr : IsRange s.heap r a b 1 t u v) (hsmall : Builtin.Range.small a b 1 = true) (hn : Builtin.Range.rangeSize a b 1 = (n : Int)) (F : Fr g env.locals s.heap m) (N : News g env.locals s.heap news)
    (j : J 0 m news)
    (turn : ∀ I i t m news oI h tk, g.get? I = none → i < n → J i m news → (∀ p ∈ news, @Ne Nat p.1 I) → Fr g env.locals h m → News g env.locals h ((I, oI) :: news) →
      wpAny (model prog w) A (storeName env x (.int (a + (i : Int)) t)) (fun _ s₂ => wpAny (model prog w) A (execs body env) (FPost g env.locals s I oI (J (i + 1)) Q) E s₂) E { s with heap := h, toks := tk })
    (done : ∀ m news h tk, J n m news → Fr g env.locals h m → News g env.locals h news → wpAny (model prog w) A (execs orelse env) Q E { s with heap := h, toks := tk })
    (hE : PassesOwn (model prog w) A env E) : wpAny (model prog w) A (pyIter (.ref r)) (fun it s₂ => ForAt prog w A env (.Name x px) body orelse Q E it s₂) E s := by
  refine wpAny_pyIter_range hr hsmall ?_
  have W := Walks.range (prog := prog) (w := w) hh s.heap.objs.size a 1 n
  refine for_W J [] W (fun i h st => ⟨_, st⟩) (fun b hb => .inl (List.mem_singleton.mp hb)) (next_is_new F) (Ne.symm (Nat.ne_of_lt F.ns.lt))
    (by show IsRangeIter _ _ _ _ _; rw [hn]; simpa using Heap.get?_push_size _ rfl) (F.push _) (fun p hp => ⟨Heap.get?_push_of_some _ (N p hp).1, (N p hp).2⟩) (fun p hp => Nat.ne_of_lt (Heap.lt_size (N p hp).1)) j (fun i m news hj p hp => nomatch hp) ?_ ?_ hE
  · rintro i v m news oI h tk hi ⟨t', rfl⟩ hJ off F N
    rw [Int.mul_one]
    exact turn _ i t' m news oI h tk (next_is_new ‹_›) hi hJ off F N
  · intro m news h tk hJ _ F N
    exact done m news h tk hJ F N
end

/-! T_pretty -/
theorem flushT_pretty : True ∧ True := by first | (row_walk; done) | (walk1; done) | exact ⟨trivial, trivial⟩
noncomputable def flagName : Nat → Str
  | 0 => Str.ofString "OPTIMIZED" | 1 => Str.ofString "NEWLOCALS" | 2 => Str.ofString "VARARGS" | 3 => Str.ofString "VARKEYWORDS" | 4 => Str.ofString "NESTED" | _ => Str.ofString "GENERATOR"
noncomputable def flagsAt (mask i : Nat) : Nat := (mask + 32) / 2 ^ i * 2 ^ i
noncomputable def namesTo (mask : Nat) : Nat → List Str
  | 0 => []
  | i + 1 => if (mask + 32) / 2 ^ i % 2 = 1 then namesTo mask i ++ [flagName i] else namesTo mask i
noncomputable def prettyF (mask : Nat) : Str := PySem.Txt.join (Str.ofString ", ") (namesTo mask 6)
theorem pf_bits : ∀ i : Nat, i < 6 → ∀ mask : Nat, mask < 32 → ((mask + 32) / 2 ^ i % 2 = 1 ∧ Builtin.bitAnd ((flagsAt mask i : Nat) : Int) (1 * 2 ^ (0 + (i : Int)).toNat) ≠ 0 ∧ Builtin.bitXor ((flagsAt mask i : Nat) : Int) (1 * 2 ^ (0 + (i : Int)).toNat) = ((flagsAt mask (i + 1) : Nat) : Int)) ∨
    (¬ (mask + 32) / 2 ^ i % 2 = 1 ∧ i ≠ 5 ∧ Builtin.bitAnd ((flagsAt mask i : Nat) : Int) (1 * 2 ^ (0 + (i : Int)).toNat) = 0 ∧ flagsAt mask (i + 1) = flagsAt mask i) := by decide +kernel
theorem pf_zero : ∀ i : Nat, i < 6 → ∀ mask : Nat, mask < 32 → (((flagsAt mask (i + 1) : Nat) : Int) = 0 ↔ i = 5) := by decide +kernel
theorem names_yes {mask i : Nat} (h : (mask + 32) / 2 ^ i % 2 = 1) : namesTo mask (i + 1) = namesTo mask i ++ [flagName i] := by rw [namesTo, if_pos h]
theorem names_no {mask i : Nat} (h : ¬ (mask + 32) / 2 ^ i % 2 = 1) : namesTo mask (i + 1) = namesTo mask i := by rw [namesTo, if_neg h]
theorem names_len (mask : Nat) : ∀ i, (namesTo mask i).length ≤ i
  | 0 => Nat.le_refl _
  | i + 1 => by
    rw [namesTo]
    have := names_len mask i
    split
    · rw [List.length_append]; exact Nat.succ_le_succ this
    · omega
theorem size_small {n : Nat} (h : n ≤ 1000) : n ≤ sizeLine := Nat.le_trans h (by decide)
theorem strs_snoc {vs : List Value} {ys : List Str} (h : StrsAre vs ys) (y : Str) (t : Tok) : StrsAre (vs ++ [.str y t]) (ys ++ [y]) := by
  induction h with
  | nil => exact .cons _ _ .nil
  | cons a t' _ ih => exact .cons a t' ih
theorem names_small : ∀ mask : Nat, mask < 32 → ((namesTo mask 6).map (·.length)).sum + (namesTo mask 6).length ≤ 1048576 := by decide +kernel
theorem news_tail {g h : Heap} {L : Addr} {a : Addr × Obj} {r : List (Addr × Obj)} (N : News g L h (a :: r)) : News g L h r := fun p hp => N p (.tail _ hp)
section
theorem pretty_call {w : World} {p : Program} {loose : List Str} {mean : ExcName → Option Value} {mg mb : Str → Option Value} {dp un : Nat} {fs : Option (List Env)} {gd : Option (List Code)} {h₀ : Heap} {s : Shared} {Q E : Value → Shared → Prop}
  (hdp : dp + 4 < recursionLimit) (hun : un + 32 < cLine)
  (X₀ : (hd.heap_39 w.params).In h₀) (T : Top p loose mean mg mb h₀) (st : h₀.StaysIn s.heap)
  {mask : Nat} {t1 : Tok} (hm : mask < 32)
  (ret : ∀ t h' tk', Kept s.heap h' [] → Q (.str (prettyF mask) t) { s with heap := h', toks := tk' }) :
  wpAny (model PySem.Challenge.rw_ty0032_01.row.prog w) (arA dp un fs gd) (call (.ref 22) [.int ((mask + 32 : Nat) : Int) t1]) Q E s := by
    refine wpAny_call ?_
    k_dflt (refine' enterP [] (binds := [("flags", .int ((mask + 32 : Nat) : Int) t1)]) ?k1 ?k2 ?k3 ?k4 ?k5 ?k6 ?k7 ?k9 ?kB ?_ ?c2 ?c3 ?c4 ?c5; (case k2 => k_asm); (case k3 => k_asm); (case k4 => k_asm); (case k5 => first | assumption | exact fun _ h => nomatch h); (case k6 => k_is); (case k7 => k_is); (case k1 => (first | exact lim0 hdp | (show dp < recursionLimit; omega))); (case k9 => first | exact BindsTo.of_eq rfl | exact binds_K (by k_in) rfl (by k_is) rfl rfl rfl | exact kp_binds (by exact Frag.In.keeps (by assumption) (by assumption)) (fun _ => rfl)); (case c5 => decide); (case kB => exact locs rfl); (case c2 => exact rfl); (case c3 => exact rfl); (case c4 => exact rfl); k_whole; intro g' L' h' tkE F' N' X' T' lt' kp' fr' st'; (try dsimp only); (try k_fold))
    (repeat' (first | (k_unfold; (try dsimp only)) | row_room_at HE | (k_end; wrow_close) | ((with_reducible show wpAny _ _ (call (Value.builtin "str.join") _ _) _ _ _); (k_here; (with_reducible show wpAny _ _ (call (Value.builtin _) _) _ _ _); refine halt ?_)) | ((with_reducible show wpAny _ _ (pyIter (Value.ref _)) _ _ _); (k_here; (with_reducible show wpAny _ _ (pyIter _) (fun _ _ => ForAt _ _ _ _ _ _ _ _ _ _ _) _ _); refine halt ?_)) | ((with_reducible show wpAny _ _ (exec (Stmt.For _ _ _ _ _) _) _ _ _); k_here; refine For_start ?_) | ((with_reducible show wpAny _ _ (call (Value.builtin "list.append") _ _) _ _ _); (k_here; (with_reducible show wpAny _ _ (call (Value.builtin _) [Value.ref _, _]) _ _ _); k_dflt (refine' append_K (by k_asm) (by k_asm) (by k_upd) ?_ (by (refine size_small ?_; (try simp only [List.size_toArray]); omega)); k_whole); intro h'z0 F'z0 N'z0; (try k_sweep))) | row_room_at HB | (dsimp only; (first | ((with_reducible show wpAny _ _ (call (Value.builtin "str.join") _ _) _ _ _); (k_here; (with_reducible show wpAny _ _ (call (Value.builtin _) _) _ _ _); refine halt ?_)) | ((with_reducible show wpAny _ _ (pyIter (Value.ref _)) _ _ _); (k_here; (with_reducible show wpAny _ _ (pyIter _) (fun _ _ => ForAt _ _ _ _ _ _ _ _ _ _ _) _ _); refine halt ?_)) | ((with_reducible show wpAny _ _ (exec (Stmt.For _ _ _ _ _) _) _ _ _); k_here; refine For_start ?_) | ((with_reducible show wpAny _ _ (call (Value.builtin "list.append") _ _) _ _ _); (k_here; (with_reducible show wpAny _ _ (call (Value.builtin _) [Value.ref _, _]) _ _ _); k_dflt (refine' append_K (by k_asm) (by k_asm) (by k_upd) ?_ (by (refine size_small ?_; (try simp only [List.size_toArray]); omega)); k_whole); intro h'z0 F'z0 N'z0; (try k_sweep))) | walk1 | row_room_at HE)) | (leave1; walk_say "STEP leave1"; try dsimp only)))
    refine go ?_
    rename_i l _ _ _ _ _ _ r t0 u0 v0 hR F1 N1 k1
    clear k1
    refine for_range rfl (fun i m news => i ≤ 5 ∧ ∃ (fl : Int) (t2 : Tok) (vs : List Value) (nn : Nat), fl = ((flagsAt mask i : Nat) : Int) ∧ Knows m [("flags", .int fl t2), ("names", .ref l)] ∧ StrsAre vs (namesTo mask i) ∧ news = [(l, listOf vs.toArray nn)])
      hR (by decide) (by rfl) F1 N1 ⟨by omega, _, t1, [], 0, ?_, ⟨rfl, rfl, trivial⟩, .nil, rfl⟩ ?_ ?_ PassesOwn.never
    · unfold flagsAt
      simp
    · clear F1 N1 hR
      intro I i t m news oI h tk hI hi jz10
      (refine hideP ?_; intro PP hPP); (obtain ⟨hi5, fl, t2, vs, nn, hfl, e1, sv, rfl⟩ := jz10) <;> (refine hPP ?_; clear hPP; clear PP)
      intro off F N
      subst hfl
      replace F := fr_knows e1 F
      clear e1 hi
      have hne : @Ne Nat l I := off _ (.head _)
      clear off
      have hvl : vs.length ≤ 5 := by rw [sv.len_eq]; exact Nat.le_trans (names_len mask i) hi5
      rcases pf_bits i (by omega) mask hm with ⟨b1, b2, b3⟩ | ⟨b1, b2, b3, b4⟩
      · have sv' := fun t => strs_snoc sv (flagName i) t
        rw [← names_yes b1] at sv'
        have b4 := pf_zero i (by omega) mask hm
        by_cases h5 : i = 5
        · subst h5
          have b5 := b4.mpr rfl
          rw [← b3] at b5
          (repeat' (first | (k_unfold; (try dsimp only)) | row_room_at HE | (k_end; wrow_close) | ((with_reducible show wpAny _ _ (call (Value.builtin "str.join") _ _) _ _ _); (k_here; (with_reducible show wpAny _ _ (call (Value.builtin _) _) _ _ _); refine halt ?_)) | ((with_reducible show wpAny _ _ (pyIter (Value.ref _)) _ _ _); (k_here; (with_reducible show wpAny _ _ (pyIter _) (fun _ _ => ForAt _ _ _ _ _ _ _ _ _ _ _) _ _); refine halt ?_)) | ((with_reducible show wpAny _ _ (exec (Stmt.For _ _ _ _ _) _) _ _ _); k_here; refine For_start ?_) | ((with_reducible show wpAny _ _ (call (Value.builtin "list.append") _ _) _ _ _); (k_here; (with_reducible show wpAny _ _ (call (Value.builtin _) [Value.ref _, _]) _ _ _); k_dflt (refine' append_K (by k_asm) (by k_asm) (by k_upd) ?_ (by (refine size_small ?_; (try simp only [List.size_toArray]); omega)); k_whole); intro h'z0 F'z0 N'z0; (try k_sweep))) | row_room_at HB | (dsimp only; (first | ((with_reducible show wpAny _ _ (call (Value.builtin "str.join") _ _) _ _ _); (k_here; (with_reducible show wpAny _ _ (call (Value.builtin _) _) _ _ _); refine halt ?_)) | ((with_reducible show wpAny _ _ (pyIter (Value.ref _)) _ _ _); (k_here; (with_reducible show wpAny _ _ (pyIter _) (fun _ _ => ForAt _ _ _ _ _ _ _ _ _ _ _) _ _); refine halt ?_)) | ((with_reducible show wpAny _ _ (exec (Stmt.For _ _ _ _ _) _) _ _ _); k_here; refine For_start ?_) | ((with_reducible show wpAny _ _ (call (Value.builtin "list.append") _ _) _ _ _); (k_here; (with_reducible show wpAny _ _ (call (Value.builtin _) [Value.ref _, _]) _ _ _); k_dflt (refine' append_K (by k_asm) (by k_asm) (by k_upd) ?_ (by (refine size_small ?_; (try simp only [List.size_toArray]); omega)); k_whole); intro h'z0 F'z0 N'z0; (try k_sweep))) | walk1 | row_room_at HE)) | (leave1; walk_say "STEP leave1"; try dsimp only)))
          · exact absurd b5 (by assumption)
          · (with_reducible rename Fr _ _ _ _ => F6)
            (with_reducible rename News _ _ _ _ => N6)
            rw [List.push_toArray] at N6
            replace N6 := news_tail N6
            (try dsimp only)
            (try dsimp only [FPost])
            (repeat' (first | (k_unfold; (try dsimp only)) | row_room_at HE | (k_end; wrow_close) | ((with_reducible show wpAny _ _ (call (Value.builtin "str.join") _ _) _ _ _); (k_here; (with_reducible show wpAny _ _ (call (Value.builtin _) _) _ _ _); refine halt ?_)) | ((with_reducible show wpAny _ _ (pyIter (Value.ref _)) _ _ _); (k_here; (with_reducible show wpAny _ _ (pyIter _) (fun _ _ => ForAt _ _ _ _ _ _ _ _ _ _ _) _ _); refine halt ?_)) | ((with_reducible show wpAny _ _ (exec (Stmt.For _ _ _ _ _) _) _ _ _); k_here; refine For_start ?_) | ((with_reducible show wpAny _ _ (call (Value.builtin "list.append") _ _) _ _ _); (k_here; (with_reducible show wpAny _ _ (call (Value.builtin _) [Value.ref _, _]) _ _ _); k_dflt (refine' append_K (by k_asm) (by k_asm) (by k_upd) ?_ (by (refine size_small ?_; (try simp only [List.size_toArray]); omega)); k_whole); intro h'z0 F'z0 N'z0; (try k_sweep))) | row_room_at HB | (dsimp only; (first | ((with_reducible show wpAny _ _ (call (Value.builtin "str.join") _ _) _ _ _); (k_here; (with_reducible show wpAny _ _ (call (Value.builtin _) _) _ _ _); refine halt ?_)) | ((with_reducible show wpAny _ _ (pyIter (Value.ref _)) _ _ _); (k_here; (with_reducible show wpAny _ _ (pyIter _) (fun _ _ => ForAt _ _ _ _ _ _ _ _ _ _ _) _ _); refine halt ?_)) | ((with_reducible show wpAny _ _ (exec (Stmt.For _ _ _ _ _) _) _ _ _); k_here; refine For_start ?_) | ((with_reducible show wpAny _ _ (call (Value.builtin "list.append") _ _) _ _ _); (k_here; (with_reducible show wpAny _ _ (call (Value.builtin _) [Value.ref _, _]) _ _ _); k_dflt (refine' append_K (by k_asm) (by k_asm) (by k_upd) ?_ (by (refine size_small ?_; (try simp only [List.size_toArray]); omega)); k_whole); intro h'z0 F'z0 N'z0; (try k_sweep))) | walk1 | row_room_at HE)) | (leave1; walk_say "STEP leave1"; try dsimp only)))
            refine go ?_
            (with_reducible rename Fr _ _ _ _ => F7)
            (with_reducible rename News _ _ _ _ => N7)
            refine' join_listW (ys := namesTo mask 6) ⟨_, (N7 _ (.head _)).1, rfl, _, rfl⟩ (sv' _) (by decide) (names_small mask hm) ?_
            intro t7 k7
            (try dsimp only)
            (repeat' (first | (k_unfold; (try dsimp only)) | row_room_at HE | (k_end; wrow_close) | ((with_reducible show wpAny _ _ (call (Value.builtin "str.join") _ _) _ _ _); (k_here; (with_reducible show wpAny _ _ (call (Value.builtin _) _) _ _ _); refine halt ?_)) | ((with_reducible show wpAny _ _ (pyIter (Value.ref _)) _ _ _); (k_here; (with_reducible show wpAny _ _ (pyIter _) (fun _ _ => ForAt _ _ _ _ _ _ _ _ _ _ _) _ _); refine halt ?_)) | ((with_reducible show wpAny _ _ (exec (Stmt.For _ _ _ _ _) _) _ _ _); k_here; refine For_start ?_) | ((with_reducible show wpAny _ _ (call (Value.builtin "list.append") _ _) _ _ _); (k_here; (with_reducible show wpAny _ _ (call (Value.builtin _) [Value.ref _, _]) _ _ _); k_dflt (refine' append_K (by k_asm) (by k_asm) (by k_upd) ?_ (by (refine size_small ?_; (try simp only [List.size_toArray]); omega)); k_whole); intro h'z0 F'z0 N'z0; (try k_sweep))) | row_room_at HB | (dsimp only; (first | ((with_reducible show wpAny _ _ (call (Value.builtin "str.join") _ _) _ _ _); (k_here; (with_reducible show wpAny _ _ (call (Value.builtin _) _) _ _ _); refine halt ?_)) | ((with_reducible show wpAny _ _ (pyIter (Value.ref _)) _ _ _); (k_here; (with_reducible show wpAny _ _ (pyIter _) (fun _ _ => ForAt _ _ _ _ _ _ _ _ _ _ _) _ _); refine halt ?_)) | ((with_reducible show wpAny _ _ (exec (Stmt.For _ _ _ _ _) _) _ _ _); k_here; refine For_start ?_) | ((with_reducible show wpAny _ _ (call (Value.builtin "list.append") _ _) _ _ _); (k_here; (with_reducible show wpAny _ _ (call (Value.builtin _) [Value.ref _, _]) _ _ _); k_dflt (refine' append_K (by k_asm) (by k_asm) (by k_upd) ?_ (by (refine size_small ?_; (try simp only [List.size_toArray]); omega)); k_whole); intro h'z0 F'z0 N'z0; (try k_sweep))) | walk1 | row_room_at HE)) | (leave1; walk_say "STEP leave1"; try dsimp only)))
            (try dsimp only)
            (repeat (first | (k_unfold; (try dsimp only)) | row_room_at HE | dsimp only))
            (try dsimp only)
            exact ret _ _ _ (kp' _ F7.keep)
          · exact absurd (by assumption) b2
        · have b5 := mt b4.mp h5
          rw [← b3] at b5
          clear b4
          obtain rfl | rfl | rfl | rfl | rfl : i = 0 ∨ i = 1 ∨ i = 2 ∨ i = 3 ∨ i = 4 := by omega
          all_goals (
            (repeat' (first | (k_unfold; (try dsimp only)) | row_room_at HE | (k_end; wrow_close) | ((with_reducible show wpAny _ _ (call (Value.builtin "str.join") _ _) _ _ _); (k_here; (with_reducible show wpAny _ _ (call (Value.builtin _) _) _ _ _); refine halt ?_)) | ((with_reducible show wpAny _ _ (pyIter (Value.ref _)) _ _ _); (k_here; (with_reducible show wpAny _ _ (pyIter _) (fun _ _ => ForAt _ _ _ _ _ _ _ _ _ _ _) _ _); refine halt ?_)) | ((with_reducible show wpAny _ _ (exec (Stmt.For _ _ _ _ _) _) _ _ _); k_here; refine For_start ?_) | ((with_reducible show wpAny _ _ (call (Value.builtin "list.append") _ _) _ _ _); (k_here; (with_reducible show wpAny _ _ (call (Value.builtin _) [Value.ref _, _]) _ _ _); k_dflt (refine' append_K (by k_asm) (by k_asm) (by k_upd) ?_ (by (refine size_small ?_; (try simp only [List.size_toArray]); omega)); k_whole); intro h'z0 F'z0 N'z0; (try k_sweep))) | row_room_at HB | (dsimp only; (first | ((with_reducible show wpAny _ _ (call (Value.builtin "str.join") _ _) _ _ _); (k_here; (with_reducible show wpAny _ _ (call (Value.builtin _) _) _ _ _); refine halt ?_)) | ((with_reducible show wpAny _ _ (pyIter (Value.ref _)) _ _ _); (k_here; (with_reducible show wpAny _ _ (pyIter _) (fun _ _ => ForAt _ _ _ _ _ _ _ _ _ _ _) _ _); refine halt ?_)) | ((with_reducible show wpAny _ _ (exec (Stmt.For _ _ _ _ _) _) _ _ _); k_here; refine For_start ?_) | ((with_reducible show wpAny _ _ (call (Value.builtin "list.append") _ _) _ _ _); (k_here; (with_reducible show wpAny _ _ (call (Value.builtin _) [Value.ref _, _]) _ _ _); k_dflt (refine' append_K (by k_asm) (by k_asm) (by k_upd) ?_ (by (refine size_small ?_; (try simp only [List.size_toArray]); omega)); k_whole); intro h'z0 F'z0 N'z0; (try k_sweep))) | walk1 | row_room_at HE)) | (leave1; walk_say "STEP leave1"; try dsimp only)))
            · (with_reducible rename Fr _ _ _ _ => F6)
              (with_reducible rename News _ _ _ _ => N6)
              rw [List.push_toArray] at N6
              exact fEnd F6 N6 (fun _ hp => hp) (fun q hq => by rw [List.mem_singleton.mp hq]; exact hne) ⟨by decide, _, _, _, _, b3, ⟨rfl, rfl, trivial⟩, sv' _, rfl⟩
            · exact absurd (by assumption) b5
            · exact absurd (by assumption) b2)
      · have sv' := sv
        rw [← names_no b1] at sv'
        (repeat' (first | (k_unfold; (try dsimp only)) | row_room_at HE | (k_end; wrow_close) | ((with_reducible show wpAny _ _ (call (Value.builtin "str.join") _ _) _ _ _); (k_here; (with_reducible show wpAny _ _ (call (Value.builtin _) _) _ _ _); refine halt ?_)) | ((with_reducible show wpAny _ _ (pyIter (Value.ref _)) _ _ _); (k_here; (with_reducible show wpAny _ _ (pyIter _) (fun _ _ => ForAt _ _ _ _ _ _ _ _ _ _ _) _ _); refine halt ?_)) | ((with_reducible show wpAny _ _ (exec (Stmt.For _ _ _ _ _) _) _ _ _); k_here; refine For_start ?_) | ((with_reducible show wpAny _ _ (call (Value.builtin "list.append") _ _) _ _ _); (k_here; (with_reducible show wpAny _ _ (call (Value.builtin _) [Value.ref _, _]) _ _ _); k_dflt (refine' append_K (by k_asm) (by k_asm) (by k_upd) ?_ (by (refine size_small ?_; (try simp only [List.size_toArray]); omega)); k_whole); intro h'z0 F'z0 N'z0; (try k_sweep))) | row_room_at HB | (dsimp only; (first | ((with_reducible show wpAny _ _ (call (Value.builtin "str.join") _ _) _ _ _); (k_here; (with_reducible show wpAny _ _ (call (Value.builtin _) _) _ _ _); refine halt ?_)) | ((with_reducible show wpAny _ _ (pyIter (Value.ref _)) _ _ _); (k_here; (with_reducible show wpAny _ _ (pyIter _) (fun _ _ => ForAt _ _ _ _ _ _ _ _ _ _ _) _ _); refine halt ?_)) | ((with_reducible show wpAny _ _ (exec (Stmt.For _ _ _ _ _) _) _ _ _); k_here; refine For_start ?_) | ((with_reducible show wpAny _ _ (call (Value.builtin "list.append") _ _) _ _ _); (k_here; (with_reducible show wpAny _ _ (call (Value.builtin _) [Value.ref _, _]) _ _ _); k_dflt (refine' append_K (by k_asm) (by k_asm) (by k_upd) ?_ (by (refine size_small ?_; (try simp only [List.size_toArray]); omega)); k_whole); intro h'z0 F'z0 N'z0; (try k_sweep))) | walk1 | row_room_at HE)) | (leave1; walk_say "STEP leave1"; try dsimp only)))
        · exact absurd b3 (by assumption)
        · (with_reducible rename Fr _ _ _ _ => F6)
          (with_reducible rename News _ _ _ _ => N6)
          exact fEnd F6 N6 (fun _ hp => hp) (fun q hq => by rw [List.mem_singleton.mp hq]; exact hne) ⟨by omega, _, _, _, _, by rw [b4], ⟨rfl, rfl, trivial⟩, sv', rfl⟩
    · rintro m news h tk ⟨h5, _⟩
      exact absurd h5 (by decide)
end

/-! T_ell -/
theorem flushT_ell : True ∧ True := by first | (row_walk; done) | (walk1; done) | exact ⟨trivial, trivial⟩
noncomputable def find4 (x y : Str) (i j : Int) : Int := match Builtin.Str.occurrences x y (PySem.fromIndex x.length i) (min (PySem.fromIndex x.length j) x.length) 1 with | k :: _ => (k : Int) | [] => -1
noncomputable def ellLoop (got : Str) (stop : Int) : List Str → Int → Bool
  | [], _ => true
  | y :: r, i => if find4 got y i stop < 0 then false else ellLoop got stop r (find4 got y i stop + y.length)
noncomputable def ellF (got : Str) (mid : List Str) : Bool :=
  if PySem.Txt.endswith got (Str.ofString "GENERATOR") = true then
    if (got.length : Int) - ((9 : Nat) : Int) < 0 then false else if find4 got (Str.ofString "") 0 ((got.length : Int) - ((9 : Nat) : Int)) < 0 then false
    else ellLoop got ((got.length : Int) - ((9 : Nat) : Int)) mid (find4 got (Str.ofString "") 0 ((got.length : Int) - ((9 : Nat) : Int)) + ((0 : Nat) : Int))
  else false
theorem ell_1 {got : Str} {mid : List Str} (h : PySem.Txt.endswith got (Str.ofString "GENERATOR") = false) : ellF got mid = false := by unfold ellF; rw [if_neg (by rw [h]; decide)]
theorem ell_2 {got : Str} {mid : List Str} (h : PySem.Txt.endswith got (Str.ofString "GENERATOR") = true) (h2 : (got.length : Int) - ((9 : Nat) : Int) < 0) : ellF got mid = false := by unfold ellF; rw [if_pos h, if_pos h2]
theorem ell_3 {got : Str} {mid : List Str} (h : PySem.Txt.endswith got (Str.ofString "GENERATOR") = true) (h2 : ¬ (got.length : Int) - ((9 : Nat) : Int) < 0) (h3 : find4 got (Str.ofString "") 0 ((got.length : Int) - ((9 : Nat) : Int)) < 0) : ellF got mid = false := by unfold ellF; rw [if_pos h, if_neg h2, if_pos h3]
theorem ell_4 {got : Str} {mid : List Str} {b : Bool} (h : PySem.Txt.endswith got (Str.ofString "GENERATOR") = true) (h2 : ¬ (got.length : Int) - ((9 : Nat) : Int) < 0) (h3 : ¬ find4 got (Str.ofString "") 0 ((got.length : Int) - ((9 : Nat) : Int)) < 0)
    (e : ellLoop got ((got.length : Int) - ((9 : Nat) : Int)) mid (find4 got (Str.ofString "") 0 ((got.length : Int) - ((9 : Nat) : Int)) + ((0 : Nat) : Int)) = b) : ellF got mid = b := by unfold ellF; rw [if_pos h, if_neg h2, if_neg h3]; exact e
theorem loop_1 {got y : Str} {r : List Str} {i stop : Int} (h : find4 got y i stop < 0) : ellLoop got stop (y :: r) i = false := by rw [ellLoop, if_pos h]
theorem loop_2 {got y : Str} {r : List Str} {i stop : Int} {b : Bool} (h : ¬ find4 got y i stop < 0) (e : ellLoop got stop r (find4 got y i stop + y.length) = b) : ellLoop got stop (y :: r) i = b := by rw [ellLoop, if_neg h]; exact e
theorem gives_find4 (x y : Str) (i j : Int) (t u v v' : Tok) : Gives (Builtin.«str.find» ⟨[.str x t, .str y u, .int i v, .int j v'], []⟩) (.int (find4 x y i j)) := by
  show Gives (match Builtin.Str.occurrences x y (PySem.fromIndex x.length i) (min (PySem.fromIndex x.length j) x.length) 1 with | k :: _ => PySem.retInt k | [] => (do rule "str.find.not-found"; PySem.retInt (-1))) _
  unfold find4
  cases Builtin.Str.occurrences x y (PySem.fromIndex x.length i) (min (PySem.fromIndex x.length j) x.length) 1 with
  | nil => exact .rule (.of_eq rfl)
  | cons k _ => exact .of_eq rfl
theorem find4_K {prog : Program} {w : World} {A : Around} {E : Value → Shared → Prop} {s : Shared} {x y : Str} {t u v v' : Tok} {i j : Int} {Q : Value → Shared → Prop} (hq : Q (.int (find4 x y i j) s.toks) { s with toks := s.toks + 1 }) : wpAny (model prog w) A (call (.builtin "str.find") [.str x t, .str y u, .int i v, .int j v']) Q E s :=
  call_gives F.slot_str_find (typeIs_str _ _ _) F.entry_str_find (F.args_str_find_4 _ _ _ _) (gives_find4 x y i j t u v v') hq
section
theorem ell_call {w : World} {p : Program} {loose : List Str} {mean : ExcName → Option Value} {mg mb : Str → Option Value} {dp un : Nat} {fs : Option (List Env)} {gd : Option (List Code)} {h₀ : Heap} {s : Shared} {Q E : Value → Shared → Prop}
  (hdp : dp + 4 < recursionLimit) (hun : un + 32 < cLine)
  (X₀ : (hd.heap_39 w.params).In h₀) (T : Top p loose mean mg mb h₀) (st : h₀.StaysIn s.heap)
  {want got : Str} {t1 t2 : Tok} {mid : List Str} (hm : mid.length ≤ 2) (hs : Txt.split want (Str.ofString "...") = Str.ofString "" :: (mid ++ [Str.ofString "GENERATOR"]))
  (hi : (Builtin.Str.occurrences want (Str.ofString "...") 0 want.length 1).isEmpty = false) (hw : want.length ≤ 100) (hml : ∀ x ∈ mid, x.length ≤ 100) (hg : got.length ≤ 100)
  (ret : ∀ h' tk', Kept s.heap h' [] → Q (.bool (ellF got mid)) { s with heap := h', toks := tk' }) :
  wpAny (model PySem.Challenge.rw_ty0032_01.row.prog w) (arA dp un fs gd) (call (.ref 63) [.str want t1, .str got t2]) Q E s := by
    refine wpAny_call ?_
    k_dflt (refine' enterP [] (binds := [("want", .str want t1), ("got", .str got t2)]) ?k1 ?k2 ?k3 ?k4 ?k5 ?k6 ?k7 ?k9 ?kB ?_ ?c2 ?c3 ?c4 ?c5; (case k2 => k_asm); (case k3 => k_asm); (case k4 => k_asm); (case k5 => first | assumption | exact fun _ h => nomatch h); (case k6 => k_is); (case k7 => k_is); (case k1 => (first | exact lim0 hdp | (show dp < recursionLimit; omega))); (case k9 => first | exact BindsTo.of_eq rfl | exact binds_K (by k_in) rfl (by k_is) rfl rfl rfl | exact kp_binds (by exact Frag.In.keeps (by assumption) (by assumption)) (fun _ => rfl)); (case c5 => decide); (case kB => exact locs rfl); (case c2 => exact rfl); (case c3 => exact rfl); (case c4 => exact rfl); k_whole; intro g' L' h' tkE F' N' X' T' lt' kp' fr' st'; (try dsimp only); (try k_fold))
    (repeat' (first | (k_unfold; (try dsimp only)) | row_room_at HE | (k_end; wrow_close) | ((with_reducible show wpAny _ _ (call (Value.builtin "str.find") _ _) _ _ _); (k_here; (with_reducible show wpAny _ _ (call (Value.builtin "str.find") [_, _, _, _]) _ _ _); refine find4_K ?_)) | ((with_reducible show wpAny _ _ (call (Value.builtin "str.split") _ _) _ _ _); (k_here; (with_reducible show wpAny _ _ (call (Value.builtin "str.split") _) _ _ _); refine halt ?_)) | ((with_reducible show wpAny _ _ (call (Value.builtin "len") _ _) _ _ _); (k_here; (with_reducible show wpAny _ _ (call (Value.builtin "len") [Value.str _ _]) _ _ _); (refine P.len_str (by first | exact size_small (by omega) | omega) ?_))) | row_room_at HB | (dsimp only; (first | ((with_reducible show wpAny _ _ (call (Value.builtin "str.find") _ _) _ _ _); (k_here; (with_reducible show wpAny _ _ (call (Value.builtin "str.find") [_, _, _, _]) _ _ _); refine find4_K ?_)) | ((with_reducible show wpAny _ _ (call (Value.builtin "str.split") _ _) _ _ _); (k_here; (with_reducible show wpAny _ _ (call (Value.builtin "str.split") _) _ _ _); refine halt ?_)) | ((with_reducible show wpAny _ _ (call (Value.builtin "len") _ _) _ _ _); (k_here; (with_reducible show wpAny _ _ (call (Value.builtin "len") [Value.str _ _]) _ _ _); (refine P.len_str (by first | exact size_small (by omega) | omega) ?_))) | walk1 | row_room_at HE)) | (leave1; walk_say "STEP leave1"; try dsimp only)))
    refine go ?_
    (with_reducible rename Fr _ _ _ _ => F1)
    (with_reducible rename News _ _ _ _ => N1)
    refine KSpl.split1 F1 N1 (by decide) ?_ (size_small (by omega))
    clear F1 N1
    intro D l h' k e a F1 N1 l1
    rw [hs] at e
    have hfin : ∀ b h' tk', (∀ c o, g'.get? c = some o → h'.get? c = some o) → ellF got mid = b → Q (.bool b) { s with heap := h', toks := tk' } := by
      rintro _ h' tk' k rfl
      exact ret _ _ (kp' _ k)
    clear ret
    obtain rfl | ⟨x, rfl⟩ | ⟨x, y, rfl⟩ : mid = [] ∨ (∃ x, mid = [x]) ∨ ∃ x y, mid = [x, y] := by
      match mid, hm with
      | [], _ => exact .inl rfl
      | [x], _ => exact .inr (.inl ⟨x, rfl⟩)
      | [x, y], _ => exact .inr (.inr ⟨x, y, rfl⟩)
    · simp only [List.cons_append, List.nil_append] at e
      kspl_open e
      simp only [strValues, List.map_cons, List.map_nil] at N1 a
      (repeat' (first | (k_unfold; (try dsimp only)) | row_room_at HE | (k_end; wrow_close) | ((with_reducible show wpAny _ _ (call (Value.builtin "str.find") _ _) _ _ _); (k_here; (with_reducible show wpAny _ _ (call (Value.builtin "str.find") [_, _, _, _]) _ _ _); refine find4_K ?_)) | ((with_reducible show wpAny _ _ (call (Value.builtin "str.split") _ _) _ _ _); (k_here; (with_reducible show wpAny _ _ (call (Value.builtin "str.split") _) _ _ _); refine halt ?_)) | ((with_reducible show wpAny _ _ (call (Value.builtin "len") _ _) _ _ _); (k_here; (with_reducible show wpAny _ _ (call (Value.builtin "len") [Value.str _ _]) _ _ _); (refine P.len_str (by first | exact size_small (by omega) | omega) ?_))) | row_room_at HB | (dsimp only; (first | ((with_reducible show wpAny _ _ (call (Value.builtin "str.find") _ _) _ _ _); (k_here; (with_reducible show wpAny _ _ (call (Value.builtin "str.find") [_, _, _, _]) _ _ _); refine find4_K ?_)) | ((with_reducible show wpAny _ _ (call (Value.builtin "str.split") _ _) _ _ _); (k_here; (with_reducible show wpAny _ _ (call (Value.builtin "str.split") _) _ _ _); refine halt ?_)) | ((with_reducible show wpAny _ _ (call (Value.builtin "len") _ _) _ _ _); (k_here; (with_reducible show wpAny _ _ (call (Value.builtin "len") [Value.str _ _]) _ _ _); (refine P.len_str (by first | exact size_small (by omega) | omega) ?_))) | walk1 | row_room_at HE)) | (leave1; walk_say "STEP leave1"; try dsimp only)))
      all_goals (
        (try dsimp only)
        (repeat (first | (k_unfold; (try dsimp only)) | row_room_at HE | dsimp only))
        (try dsimp only)
        (with_reducible rename Fr _ _ _ _ => F7)
        refine hfin _ _ _ F7.keep ?_
        first | exact ell_1 (by assumption) | exact ell_2 (by assumption) (by assumption) | exact ell_3 (by assumption) (by assumption) (by assumption) | (refine ell_4 (by assumption) (by assumption) (by assumption) ?_; first | exact rfl | exact loop_1 (by assumption) | (refine loop_2 (by assumption) ?_; first | exact rfl | exact loop_1 (by assumption) | (refine loop_2 (by assumption) ?_; exact rfl))))
    · simp only [List.cons_append, List.nil_append] at e
      kspl_open e
      simp only [strValues, List.map_cons, List.map_nil] at N1 a
      have hx := hml x (by simp)
      (repeat' (first | (k_unfold; (try dsimp only)) | row_room_at HE | (k_end; wrow_close) | ((with_reducible show wpAny _ _ (call (Value.builtin "str.find") _ _) _ _ _); (k_here; (with_reducible show wpAny _ _ (call (Value.builtin "str.find") [_, _, _, _]) _ _ _); refine find4_K ?_)) | ((with_reducible show wpAny _ _ (call (Value.builtin "str.split") _ _) _ _ _); (k_here; (with_reducible show wpAny _ _ (call (Value.builtin "str.split") _) _ _ _); refine halt ?_)) | ((with_reducible show wpAny _ _ (call (Value.builtin "len") _ _) _ _ _); (k_here; (with_reducible show wpAny _ _ (call (Value.builtin "len") [Value.str _ _]) _ _ _); (refine P.len_str (by first | exact size_small (by omega) | omega) ?_))) | row_room_at HB | (dsimp only; (first | ((with_reducible show wpAny _ _ (call (Value.builtin "str.find") _ _) _ _ _); (k_here; (with_reducible show wpAny _ _ (call (Value.builtin "str.find") [_, _, _, _]) _ _ _); refine find4_K ?_)) | ((with_reducible show wpAny _ _ (call (Value.builtin "str.split") _ _) _ _ _); (k_here; (with_reducible show wpAny _ _ (call (Value.builtin "str.split") _) _ _ _); refine halt ?_)) | ((with_reducible show wpAny _ _ (call (Value.builtin "len") _ _) _ _ _); (k_here; (with_reducible show wpAny _ _ (call (Value.builtin "len") [Value.str _ _]) _ _ _); (refine P.len_str (by first | exact size_small (by omega) | omega) ?_))) | walk1 | row_room_at HE)) | (leave1; walk_say "STEP leave1"; try dsimp only)))
      all_goals (
        (try dsimp only)
        (repeat (first | (k_unfold; (try dsimp only)) | row_room_at HE | dsimp only))
        (try dsimp only)
        (with_reducible rename Fr _ _ _ _ => F7)
        refine hfin _ _ _ F7.keep ?_
        first | exact ell_1 (by assumption) | exact ell_2 (by assumption) (by assumption) | exact ell_3 (by assumption) (by assumption) (by assumption) | (refine ell_4 (by assumption) (by assumption) (by assumption) ?_; first | exact rfl | exact loop_1 (by assumption) | (refine loop_2 (by assumption) ?_; first | exact rfl | exact loop_1 (by assumption) | (refine loop_2 (by assumption) ?_; exact rfl))))
    · simp only [List.cons_append, List.nil_append] at e
      kspl_open e
      simp only [strValues, List.map_cons, List.map_nil] at N1 a
      have hx := hml x (by simp)
      have hy := hml y (by simp)
      (repeat' (first | (k_unfold; (try dsimp only)) | row_room_at HE | (k_end; wrow_close) | ((with_reducible show wpAny _ _ (call (Value.builtin "str.find") _ _) _ _ _); (k_here; (with_reducible show wpAny _ _ (call (Value.builtin "str.find") [_, _, _, _]) _ _ _); refine find4_K ?_)) | ((with_reducible show wpAny _ _ (call (Value.builtin "str.split") _ _) _ _ _); (k_here; (with_reducible show wpAny _ _ (call (Value.builtin "str.split") _) _ _ _); refine halt ?_)) | ((with_reducible show wpAny _ _ (call (Value.builtin "len") _ _) _ _ _); (k_here; (with_reducible show wpAny _ _ (call (Value.builtin "len") [Value.str _ _]) _ _ _); (refine P.len_str (by first | exact size_small (by omega) | omega) ?_))) | row_room_at HB | (dsimp only; (first | ((with_reducible show wpAny _ _ (call (Value.builtin "str.find") _ _) _ _ _); (k_here; (with_reducible show wpAny _ _ (call (Value.builtin "str.find") [_, _, _, _]) _ _ _); refine find4_K ?_)) | ((with_reducible show wpAny _ _ (call (Value.builtin "str.split") _ _) _ _ _); (k_here; (with_reducible show wpAny _ _ (call (Value.builtin "str.split") _) _ _ _); refine halt ?_)) | ((with_reducible show wpAny _ _ (call (Value.builtin "len") _ _) _ _ _); (k_here; (with_reducible show wpAny _ _ (call (Value.builtin "len") [Value.str _ _]) _ _ _); (refine P.len_str (by first | exact size_small (by omega) | omega) ?_))) | walk1 | row_room_at HE)) | (leave1; walk_say "STEP leave1"; try dsimp only)))
      all_goals (
        (try dsimp only)
        (repeat (first | (k_unfold; (try dsimp only)) | row_room_at HE | dsimp only))
        (try dsimp only)
        (with_reducible rename Fr _ _ _ _ => F7)
        refine hfin _ _ _ F7.keep ?_
        first | exact ell_1 (by assumption) | exact ell_2 (by assumption) (by assumption) | exact ell_3 (by assumption) (by assumption) (by assumption) | (refine ell_4 (by assumption) (by assumption) (by assumption) ?_; first | exact rfl | exact loop_1 (by assumption) | (refine loop_2 (by assumption) ?_; first | exact rfl | exact loop_1 (by assumption) | (refine loop_2 (by assumption) ?_; exact rfl))))
end

/-! T_pat -/
theorem flushT_pat : True ∧ True := by first | (row_walk; done) | (walk1; done) | exact ⟨trivial, trivial⟩
noncomputable def patF (mask : Nat) : Str := Str.ofString "..." ++ PySem.Txt.replace (prettyF mask) (Str.ofString ", ") (Str.ofString "...")
noncomputable def bitsF : Nat → Nat → Nat
  | 0, _ => 0
  | k + 1, m => m % 2 + bitsF k (m / 2)
theorem pretty_len : ∀ mask : Nat, mask < 32 → (prettyF mask).length ≤ 100 := by decide +kernel
theorem pat_facts : ∀ mask : Nat, mask < 32 → bitsF 5 mask ≤ 2 → (namesTo mask 5).length ≤ 2 ∧ PySem.Txt.split (patF mask) (Str.ofString "...") = Str.ofString "" :: (namesTo mask 5 ++ [Str.ofString "GENERATOR"]) ∧
    (Builtin.Str.occurrences (patF mask) (Str.ofString "...") 0 (patF mask).length 1).isEmpty = false ∧ (patF mask).length ≤ 100 ∧ ∀ x ∈ namesTo mask 5, x.length ≤ 100 := by decide +kernel
noncomputable def firstOf (p : Nat → Bool) : List Nat → List Nat
  | [] => []
  | i :: r => if p i = true then [i] else firstOf p r
theorem occ_stay (s sub : Str) (hi : Nat) : ∀ (l : List Nat) (st : Array Nat × Nat), 1 ≤ st.fst.size → (forIn l st (StrLaws.occBody s sub hi 1)).run.fst = st.fst
  | [], st, _ => rfl
  | a :: l, st, h => by
    rw [List.forIn_cons]
    unfold StrLaws.occBody
    rw [if_neg (fun x => absurd x.1.1.1 (Nat.not_lt.mpr h))]
    exact occ_stay s sub hi l st h
theorem occ_first (s sub : Str) (hi : Nat) : ∀ (l : List Nat) (free : Nat), (∀ i ∈ l, free ≤ i) →
    (forIn l ((#[] : Array Nat), free) (StrLaws.occBody s sub hi 1)).run.fst.toList = firstOf (fun i => decide (i + sub.length ≤ hi) && Builtin.Str.subAt s sub i) l
  | [], _, _ => rfl
  | a :: l, free, hf => by
    rw [List.forIn_cons]
    unfold StrLaws.occBody firstOf
    by_cases hc : a + sub.length ≤ hi ∧ Builtin.Str.subAt s sub a = true
    · rw [if_pos ⟨⟨⟨by simp, hf a (List.mem_cons_self ..)⟩, hc.1⟩, hc.2⟩, if_pos (by rw [hc.2]; simpa using hc.1)]
      show (forIn l ((#[] : Array Nat).push a, a + sub.length) (StrLaws.occBody s sub hi 1)).run.fst.toList = [a]
      rw [occ_stay _ _ _ _ _ (by simp)]
      rfl
    · rw [if_neg (fun h => hc ⟨h.1.2, h.2⟩), if_neg (by simpa using hc)]
      exact occ_first s sub hi l free fun i hi' => hf i (List.mem_cons_of_mem _ hi')
theorem subAt_list (s sub : Str) (i : Nat) : Builtin.Str.subAt s sub i = ((s.cps.toList.drop i).take sub.cps.toList.length == sub.cps.toList) := by
  unfold Builtin.Str.subAt
  rw [Bool.eq_iff_iff, beq_iff_eq, beq_iff_eq, ← Array.toList_inj, Array.toList_extract, List.extract_eq_drop_take, Nat.add_sub_cancel_left]
  rfl
noncomputable def occL (x y : List Nat) (lo hi : Nat) : List Nat := firstOf (fun i => decide (i + y.length ≤ hi) && ((x.drop i).take y.length == y)) (List.range' lo (hi + 1 - lo))
theorem occ_list (x y : Str) (lo hi : Nat) : Builtin.Str.occurrences x y lo hi 1 = occL x.cps.toList y.cps.toList lo hi := by
  rw [StrLaws.occ_eq, occ_first _ _ _ _ _ (fun i h => (List.mem_range'_1.mp h).1)]
  unfold occL
  congr 1
  funext i
  rw [subAt_list]
  rfl
noncomputable def find4L (x y : List Nat) (i j : Int) : Int := match occL x y (PySem.fromIndex x.length i) (min (PySem.fromIndex x.length j) x.length) with | k :: _ => (k : Int) | [] => -1
theorem find4_list (x y : Str) (i j : Int) : find4 x y i j = find4L x.cps.toList y.cps.toList i j := by
  unfold find4 find4L
  rw [occ_list]
  rfl
noncomputable def ellLoopL (got : List Nat) (stop : Int) : List (List Nat) → Int → Bool
  | [], _ => true
  | y :: r, i => if find4L got y i stop < 0 then false else ellLoopL got stop r (find4L got y i stop + y.length)
theorem ellLoop_list (got : Str) (stop : Int) : ∀ (l : List Str) (i : Int), ellLoop got stop l i = ellLoopL got.cps.toList stop (l.map (·.cps.toList)) i
  | [], _ => rfl
  | y :: r, i => by
    rw [ellLoop, List.map_cons, ellLoopL, find4_list]
    split
    · rfl
    · exact ellLoop_list got stop r _
noncomputable def ellFL (got : List Nat) (e : Bool) (mid : List (List Nat)) : Bool :=
  if e = true then
    if (got.length : Int) - ((9 : Nat) : Int) < 0 then false else if find4L got [] 0 ((got.length : Int) - ((9 : Nat) : Int)) < 0 then false
    else ellLoopL got ((got.length : Int) - ((9 : Nat) : Int)) mid (find4L got [] 0 ((got.length : Int) - ((9 : Nat) : Int)) + ((0 : Nat) : Int))
  else false
theorem ellF_list (got : Str) (mid : List Str) : ellF got mid = ellFL got.cps.toList (PySem.Txt.endswith got (Str.ofString "GENERATOR")) (mid.map (·.cps.toList)) := by
  unfold ellF ellFL
  rw [find4_list, ellLoop_list]
  rfl
noncomputable def nameL : Nat → List Nat
  | 0 => [79, 80, 84, 73, 77, 73, 90, 69, 68]
  | 1 => [78, 69, 87, 76, 79, 67, 65, 76, 83]
  | 2 => [86, 65, 82, 65, 82, 71, 83]
  | 3 => [86, 65, 82, 75, 69, 89, 87, 79, 82, 68, 83]
  | 4 => [78, 69, 83, 84, 69, 68]
  | _ => [71, 69, 78, 69, 82, 65, 84, 79, 82]
theorem name_list : ∀ i : Nat, i < 6 → (flagName i).cps.toList = nameL i := by decide +kernel
noncomputable def bitsL (m k : Nat) : List Nat := (List.range k).filter fun i => (m + 32) / 2 ^ i % 2 == 1
theorem names_bits (m : Nat) : ∀ k : Nat, namesTo m k = (bitsL m k).map flagName
  | 0 => rfl
  | k + 1 => by
    rw [namesTo, names_bits m k]
    unfold bitsL
    rw [List.range_succ, List.filter_append, List.map_append]
    by_cases h : (m + 32) / 2 ^ k % 2 = 1
    · rw [if_pos h, List.filter_cons_of_pos (by simpa using h)]; rfl
    · rw [if_neg h, List.filter_cons_of_neg (by simpa using h)]; simp
theorem names_list (m k : Nat) (hk : k ≤ 6) : (namesTo m k).map (·.cps.toList) = (bitsL m k).map nameL := by
  rw [names_bits, List.map_map]
  refine List.map_congr_left fun i hi => ?_
  have := List.mem_range.mp (List.mem_filter.mp hi).1
  exact name_list i (Nat.lt_of_lt_of_le this hk)
noncomputable def glueL (sep : List Nat) : List (List Nat) → List Nat
  | [] => []
  | [a] => a
  | a :: b :: r => a ++ sep ++ glueL sep (b :: r)
noncomputable def prettyL (m : Nat) : List Nat := glueL [44, 32] ((bitsL m 6).map nameL)
theorem pretty_list : ∀ m : Nat, m < 32 → (prettyF m).cps.toList = prettyL m := by decide +kernel
theorem pretty_ends : ∀ m : Nat, m < 32 → PySem.Txt.endswith (prettyF m) (Str.ofString "GENERATOR") = true := by decide +kernel
theorem ell_fast : ∀ mask : Nat, mask < 32 → bitsF 5 mask ≤ 2 → ∀ m : Nat, m < 32 → ellFL (prettyL m) true ((bitsL mask 5).map nameL) = (mask &&& m == mask) := by decide +kernel
theorem ell_law : ∀ mask : Nat, mask < 32 → bitsF 5 mask ≤ 2 → ∀ m : Nat, m < 32 → ellF (prettyF m) (namesTo mask 5) = (mask &&& m == mask) := fun mask hm hb m h => by
  rw [ellF_list, pretty_list m h, pretty_ends m h, names_list _ _ (by decide)]
  exact ell_fast mask hm hb m h

/-! T_lies -/
theorem flushT_lies : True ∧ True := by first | (row_walk; done) | (walk1; done) | exact ⟨trivial, trivial⟩
section
theorem lies_call {w : World} {p : Program} {loose : List Str} {mean : ExcName → Option Value} {mg mb : Str → Option Value} {dp un : Nat} {fs : Option (List Env)} {gd : Option (List Code)} {h₀ : Heap} {s : Shared} {Q E : Value → Shared → Prop}
  (hdp : dp + 8 < recursionLimit) (hun : un + 64 < cLine)
  (X₀ : (hd.heap_39 w.params).In h₀) (T : Top p loose mean mg mb h₀) (st : h₀.StaysIn s.heap)
  {mask : Nat} {t1 : Tok} {l : Addr} {tv : List Value} {nn : Nat} {ms : List Nat} (hm : mask < 32) (hb : bitsF 5 mask ≤ 2) (tvs : StrsAre tv (ms.map prettyF)) (hms : ∀ m ∈ ms, m < 32)
  (hn : ∀ q ∈ [(l, listOf tv.toArray nn)], s.heap.get? q.1 = some q.2 ∧ h₀.get? q.1 = none)
  (ret : ∀ h' tk', Kept s.heap h' [] → Q (.bool (ms.any fun m => mask &&& m == mask)) { s with heap := h', toks := tk' }) :
  wpAny (model PySem.Challenge.rw_ty0032_01.row.prog w) (arA dp un fs gd) (call (.ref 143) [.int (mask : Int) t1, .ref l]) Q E s := by
    refine wpAny_call ?_
    k_dflt (refine' enterP [(l, listOf tv.toArray nn)] (binds := [("mask", .int (mask : Int) t1), ("texts", .ref l)]) ?k1 ?k2 ?k3 ?k4 ?k5 ?k6 ?k7 ?k9 ?kB ?_ ?c2 ?c3 ?c4 ?c5; (case k2 => k_asm); (case k3 => k_asm); (case k4 => k_asm); (case k5 => first | assumption | exact fun _ h => nomatch h); (case k6 => k_is); (case k7 => k_is); (case k1 => (first | exact lim0 hdp | (show dp < recursionLimit; omega))); (case k9 => first | exact BindsTo.of_eq rfl | exact binds_K (by k_in) rfl (by k_is) rfl rfl rfl | exact kp_binds (by exact Frag.In.keeps (by assumption) (by assumption)) (fun _ => rfl)); (case c5 => decide); (case kB => exact locs rfl); (case c2 => exact rfl); (case c3 => exact rfl); (case c4 => exact rfl); k_whole; intro g' L' h' tkE F' N' X' T' lt' kp' fr' st'; (try dsimp only); (try k_fold))
    (repeat' (first | (k_unfold; (try dsimp only)) | row_room_at HE | (k_end; wrow_close) | ((with_reducible show wpAny _ _ (call (Value.ref 63) _) _ _ _); k_here; refine halt ?_) | ((with_reducible show wpAny _ _ (call (Value.ref 22) _) _ _ _); k_here; (with_reducible rename Fr _ _ _ _ => kFz3); (with_reducible rename News _ _ _ _ => kNz3); (with_reducible rename _ < 32 => kHz3); refine wpAny_with_toks (n := 1) (by ((try dsimp only); omega)) ?n2; refine' pretty_call (by (first | exact lim2 hdp rfl | exact lim1 hdp rfl | exact lim2 hun rfl | exact lim1 hun rfl | exact lim0 hdp | exact lim0 hun | exact lim3 hdp rfl | exact lim3 hun rfl | ((try dsimp only [arA, Around.deeper]); omega))) (by (first | exact lim2 hdp rfl | exact lim1 hdp rfl | exact lim2 hun rfl | exact lim1 hun rfl | exact lim0 hdp | exact lim0 hun | exact lim3 hdp rfl | exact lim3 hun rfl | ((try dsimp only [arA, Around.deeper]); omega))) (by assumption) (by assumption) (Fr.keep kFz3) kHz3 ?_; intro t'z3 h'z3 tk'z3 kp'z3 hTKz3; have F'z3 := fr_kept0 kFz3 kp'z3; have N'z3 := news_kept0 kNz3 kp'z3; clear kp'z3 kFz3 kNz3; (try dsimp only); (try k_sweep)) | ((with_reducible show wpAny _ _ (pyIter (Value.ref _)) _ _ _); (k_here; (with_reducible show wpAny _ _ (pyIter _) (fun _ _ => ForAt _ _ _ _ _ _ _ _ _ _ _) _ _); refine halt ?_)) | ((with_reducible show wpAny _ _ (exec (Stmt.For _ _ _ _ _) _) _ _ _); k_here; refine halt ?_) | ((with_reducible show wpAny _ _ (call (Value.builtin "str.replace") _ _) _ _ _); (k_here; (with_reducible show wpAny _ _ (call (Value.builtin "str.replace") _) _ _ _); refine halt ?_)) | row_room_at HB | (dsimp only; (first | ((with_reducible show wpAny _ _ (call (Value.ref 63) _) _ _ _); k_here; refine halt ?_) | ((with_reducible show wpAny _ _ (call (Value.ref 22) _) _ _ _); k_here; (with_reducible rename Fr _ _ _ _ => kFz3); (with_reducible rename News _ _ _ _ => kNz3); (with_reducible rename _ < 32 => kHz3); refine wpAny_with_toks (n := 1) (by ((try dsimp only); omega)) ?n2; refine' pretty_call (by (first | exact lim2 hdp rfl | exact lim1 hdp rfl | exact lim2 hun rfl | exact lim1 hun rfl | exact lim0 hdp | exact lim0 hun | exact lim3 hdp rfl | exact lim3 hun rfl | ((try dsimp only [arA, Around.deeper]); omega))) (by (first | exact lim2 hdp rfl | exact lim1 hdp rfl | exact lim2 hun rfl | exact lim1 hun rfl | exact lim0 hdp | exact lim0 hun | exact lim3 hdp rfl | exact lim3 hun rfl | ((try dsimp only [arA, Around.deeper]); omega))) (by assumption) (by assumption) (Fr.keep kFz3) kHz3 ?_; intro t'z3 h'z3 tk'z3 kp'z3 hTKz3; have F'z3 := fr_kept0 kFz3 kp'z3; have N'z3 := news_kept0 kNz3 kp'z3; clear kp'z3 kFz3 kNz3; (try dsimp only); (try k_sweep)) | ((with_reducible show wpAny _ _ (pyIter (Value.ref _)) _ _ _); (k_here; (with_reducible show wpAny _ _ (pyIter _) (fun _ _ => ForAt _ _ _ _ _ _ _ _ _ _ _) _ _); refine halt ?_)) | ((with_reducible show wpAny _ _ (exec (Stmt.For _ _ _ _ _) _) _ _ _); k_here; refine halt ?_) | ((with_reducible show wpAny _ _ (call (Value.builtin "str.replace") _ _) _ _ _); (k_here; (with_reducible show wpAny _ _ (call (Value.builtin "str.replace") _) _ _ _); refine halt ?_)) | walk1 | row_room_at HE)) | (leave1; walk_say "STEP leave1"; try dsimp only)))
    refine go ?_
    (with_reducible rename 1 ≤ _ => hTK)
    dsimp only at hTK
    refine' SC.replaceW ?hu ?hv ?huv ?hyz ?hx ?hz ?_
    (case hu => exact Nat.ne_of_gt hTK)
    (case hv => exact Nat.succ_ne_zero _)
    (case huv => exact Nat.ne_of_lt (Nat.lt_succ_self _))
    (case hyz => decide)
    (case hx => exact Nat.le_trans (pretty_len mask (by assumption)) (by decide))
    (case hz => decide)
    intro tR kR
    (try dsimp only)
    (refine hideP ?_; intro PP hPP); (obtain ⟨p1, p2, p3, p4, p5⟩ := pat_facts mask (by assumption) hb) <;> (refine hPP ?_; clear hPP; clear PP)
    have p4' : (PySem.Txt.replace (prettyF mask) (Str.ofString ", ") (Str.ofString "...")).length ≤ 100 := Nat.le_trans (by unfold patF; simp [Str.length_append]) p4
    (repeat' (first | (k_unfold; (try dsimp only)) | row_room_at HE | (k_end; wrow_close) | ((with_reducible show wpAny _ _ (call (Value.ref 63) _) _ _ _); k_here; refine halt ?_) | ((with_reducible show wpAny _ _ (call (Value.ref 22) _) _ _ _); k_here; (with_reducible rename Fr _ _ _ _ => kFz3); (with_reducible rename News _ _ _ _ => kNz3); (with_reducible rename _ < 32 => kHz3); refine wpAny_with_toks (n := 1) (by ((try dsimp only); omega)) ?n2; refine' pretty_call (by (first | exact lim2 hdp rfl | exact lim1 hdp rfl | exact lim2 hun rfl | exact lim1 hun rfl | exact lim0 hdp | exact lim0 hun | exact lim3 hdp rfl | exact lim3 hun rfl | ((try dsimp only [arA, Around.deeper]); omega))) (by (first | exact lim2 hdp rfl | exact lim1 hdp rfl | exact lim2 hun rfl | exact lim1 hun rfl | exact lim0 hdp | exact lim0 hun | exact lim3 hdp rfl | exact lim3 hun rfl | ((try dsimp only [arA, Around.deeper]); omega))) (by assumption) (by assumption) (Fr.keep kFz3) kHz3 ?_; intro t'z3 h'z3 tk'z3 kp'z3 hTKz3; have F'z3 := fr_kept0 kFz3 kp'z3; have N'z3 := news_kept0 kNz3 kp'z3; clear kp'z3 kFz3 kNz3; (try dsimp only); (try k_sweep)) | ((with_reducible show wpAny _ _ (pyIter (Value.ref _)) _ _ _); (k_here; (with_reducible show wpAny _ _ (pyIter _) (fun _ _ => ForAt _ _ _ _ _ _ _ _ _ _ _) _ _); refine halt ?_)) | ((with_reducible show wpAny _ _ (exec (Stmt.For _ _ _ _ _) _) _ _ _); k_here; refine halt ?_) | ((with_reducible show wpAny _ _ (call (Value.builtin "str.replace") _ _) _ _ _); (k_here; (with_reducible show wpAny _ _ (call (Value.builtin "str.replace") _) _ _ _); refine halt ?_)) | row_room_at HB | (dsimp only; (first | ((with_reducible show wpAny _ _ (call (Value.ref 63) _) _ _ _); k_here; refine halt ?_) | ((with_reducible show wpAny _ _ (call (Value.ref 22) _) _ _ _); k_here; (with_reducible rename Fr _ _ _ _ => kFz3); (with_reducible rename News _ _ _ _ => kNz3); (with_reducible rename _ < 32 => kHz3); refine wpAny_with_toks (n := 1) (by ((try dsimp only); omega)) ?n2; refine' pretty_call (by (first | exact lim2 hdp rfl | exact lim1 hdp rfl | exact lim2 hun rfl | exact lim1 hun rfl | exact lim0 hdp | exact lim0 hun | exact lim3 hdp rfl | exact lim3 hun rfl | ((try dsimp only [arA, Around.deeper]); omega))) (by (first | exact lim2 hdp rfl | exact lim1 hdp rfl | exact lim2 hun rfl | exact lim1 hun rfl | exact lim0 hdp | exact lim0 hun | exact lim3 hdp rfl | exact lim3 hun rfl | ((try dsimp only [arA, Around.deeper]); omega))) (by assumption) (by assumption) (Fr.keep kFz3) kHz3 ?_; intro t'z3 h'z3 tk'z3 kp'z3 hTKz3; have F'z3 := fr_kept0 kFz3 kp'z3; have N'z3 := news_kept0 kNz3 kp'z3; clear kp'z3 kFz3 kNz3; (try dsimp only); (try k_sweep)) | ((with_reducible show wpAny _ _ (pyIter (Value.ref _)) _ _ _); (k_here; (with_reducible show wpAny _ _ (pyIter _) (fun _ _ => ForAt _ _ _ _ _ _ _ _ _ _ _) _ _); refine halt ?_)) | ((with_reducible show wpAny _ _ (exec (Stmt.For _ _ _ _ _) _) _ _ _); k_here; refine halt ?_) | ((with_reducible show wpAny _ _ (call (Value.builtin "str.replace") _ _) _ _ _); (k_here; (with_reducible show wpAny _ _ (call (Value.builtin "str.replace") _) _ _ _); refine halt ?_)) | walk1 | row_room_at HE)) | (leave1; walk_say "STEP leave1"; try dsimp only)))
    refine go ?_
    refine For_start ?_
    (repeat' (first | (k_unfold; (try dsimp only)) | row_room_at HE | (k_end; wrow_close) | ((with_reducible show wpAny _ _ (call (Value.ref 63) _) _ _ _); k_here; refine halt ?_) | ((with_reducible show wpAny _ _ (call (Value.ref 22) _) _ _ _); k_here; (with_reducible rename Fr _ _ _ _ => kFz3); (with_reducible rename News _ _ _ _ => kNz3); (with_reducible rename _ < 32 => kHz3); refine wpAny_with_toks (n := 1) (by ((try dsimp only); omega)) ?n2; refine' pretty_call (by (first | exact lim2 hdp rfl | exact lim1 hdp rfl | exact lim2 hun rfl | exact lim1 hun rfl | exact lim0 hdp | exact lim0 hun | exact lim3 hdp rfl | exact lim3 hun rfl | ((try dsimp only [arA, Around.deeper]); omega))) (by (first | exact lim2 hdp rfl | exact lim1 hdp rfl | exact lim2 hun rfl | exact lim1 hun rfl | exact lim0 hdp | exact lim0 hun | exact lim3 hdp rfl | exact lim3 hun rfl | ((try dsimp only [arA, Around.deeper]); omega))) (by assumption) (by assumption) (Fr.keep kFz3) kHz3 ?_; intro t'z3 h'z3 tk'z3 kp'z3 hTKz3; have F'z3 := fr_kept0 kFz3 kp'z3; have N'z3 := news_kept0 kNz3 kp'z3; clear kp'z3 kFz3 kNz3; (try dsimp only); (try k_sweep)) | ((with_reducible show wpAny _ _ (pyIter (Value.ref _)) _ _ _); (k_here; (with_reducible show wpAny _ _ (pyIter _) (fun _ _ => ForAt _ _ _ _ _ _ _ _ _ _ _) _ _); refine halt ?_)) | ((with_reducible show wpAny _ _ (exec (Stmt.For _ _ _ _ _) _) _ _ _); k_here; refine halt ?_) | ((with_reducible show wpAny _ _ (call (Value.builtin "str.replace") _ _) _ _ _); (k_here; (with_reducible show wpAny _ _ (call (Value.builtin "str.replace") _) _ _ _); refine halt ?_)) | row_room_at HB | (dsimp only; (first | ((with_reducible show wpAny _ _ (call (Value.ref 63) _) _ _ _); k_here; refine halt ?_) | ((with_reducible show wpAny _ _ (call (Value.ref 22) _) _ _ _); k_here; (with_reducible rename Fr _ _ _ _ => kFz3); (with_reducible rename News _ _ _ _ => kNz3); (with_reducible rename _ < 32 => kHz3); refine wpAny_with_toks (n := 1) (by ((try dsimp only); omega)) ?n2; refine' pretty_call (by (first | exact lim2 hdp rfl | exact lim1 hdp rfl | exact lim2 hun rfl | exact lim1 hun rfl | exact lim0 hdp | exact lim0 hun | exact lim3 hdp rfl | exact lim3 hun rfl | ((try dsimp only [arA, Around.deeper]); omega))) (by (first | exact lim2 hdp rfl | exact lim1 hdp rfl | exact lim2 hun rfl | exact lim1 hun rfl | exact lim0 hdp | exact lim0 hun | exact lim3 hdp rfl | exact lim3 hun rfl | ((try dsimp only [arA, Around.deeper]); omega))) (by assumption) (by assumption) (Fr.keep kFz3) kHz3 ?_; intro t'z3 h'z3 tk'z3 kp'z3 hTKz3; have F'z3 := fr_kept0 kFz3 kp'z3; have N'z3 := news_kept0 kNz3 kp'z3; clear kp'z3 kFz3 kNz3; (try dsimp only); (try k_sweep)) | ((with_reducible show wpAny _ _ (pyIter (Value.ref _)) _ _ _); (k_here; (with_reducible show wpAny _ _ (pyIter _) (fun _ _ => ForAt _ _ _ _ _ _ _ _ _ _ _) _ _); refine halt ?_)) | ((with_reducible show wpAny _ _ (exec (Stmt.For _ _ _ _ _) _) _ _ _); k_here; refine halt ?_) | ((with_reducible show wpAny _ _ (call (Value.builtin "str.replace") _ _) _ _ _); (k_here; (with_reducible show wpAny _ _ (call (Value.builtin "str.replace") _) _ _ _); refine halt ?_)) | walk1 | row_room_at HE)) | (leave1; walk_say "STEP leave1"; try dsimp only)))
    refine go ?_
    (with_reducible rename Fr _ _ _ _ => F1)
    (with_reducible rename News _ _ _ _ => N1)
    refine for_list rfl (fun i m news => (∃ tP, Knows m [("pattern", .str (patF mask) tP)]) ∧ news = [(l, listOf tv.toArray nn)] ∧ ((ms.take i).any fun m => mask &&& m == mask) = false) F1 N1 (.head _) ⟨⟨_, rfl, trivial⟩, rfl, rfl⟩ ?_ ?_ ?_ PassesOwn.never
    · intro i m news jz3
      (refine hideP ?_; intro PP hPP); (obtain ⟨_, rfl, _⟩ := jz3) <;> (refine hPP ?_; clear hPP; clear PP)
      exact .head _
    · intro I i v m news oI h tk hI hv jz10
      (refine hideP ?_; intro PP hPP); (obtain ⟨⟨tP, e1⟩, rfl, hf⟩ := jz10) <;> (refine hPP ?_; clear hPP; clear PP)
      intro off F N
      replace F := fr_knows e1 F
      clear e1
      have hne : @Ne Nat l I := off _ (.head _)
      (refine hideP ?_; intro PP hPP); (obtain ⟨y, ty, rfl, hy⟩ := tvs.item i v hv) <;> (refine hPP ?_; clear hPP; clear PP)
      rw [List.getElem?_map] at hy
      (refine hideP ?_; intro PP hPP); (obtain ⟨mm, hmm, rfl⟩ := Option.map_eq_some_iff.mp hy) <;> (refine hPP ?_; clear hPP; clear PP)
      have hmm32 : mm < 32 := hms mm (List.mem_of_getElem? hmm)
      have tk1 : (ms.take (i + 1)) = ms.take i ++ [mm] := by rw [List.take_add_one, hmm]; rfl
      (repeat' (first | (k_unfold; (try dsimp only)) | row_room_at HE | (k_end; wrow_close) | ((with_reducible show wpAny _ _ (call (Value.ref 63) _) _ _ _); k_here; refine halt ?_) | ((with_reducible show wpAny _ _ (call (Value.ref 22) _) _ _ _); k_here; (with_reducible rename Fr _ _ _ _ => kFz3); (with_reducible rename News _ _ _ _ => kNz3); (with_reducible rename _ < 32 => kHz3); refine wpAny_with_toks (n := 1) (by ((try dsimp only); omega)) ?n2; refine' pretty_call (by (first | exact lim2 hdp rfl | exact lim1 hdp rfl | exact lim2 hun rfl | exact lim1 hun rfl | exact lim0 hdp | exact lim0 hun | exact lim3 hdp rfl | exact lim3 hun rfl | ((try dsimp only [arA, Around.deeper]); omega))) (by (first | exact lim2 hdp rfl | exact lim1 hdp rfl | exact lim2 hun rfl | exact lim1 hun rfl | exact lim0 hdp | exact lim0 hun | exact lim3 hdp rfl | exact lim3 hun rfl | ((try dsimp only [arA, Around.deeper]); omega))) (by assumption) (by assumption) (Fr.keep kFz3) kHz3 ?_; intro t'z3 h'z3 tk'z3 kp'z3 hTKz3; have F'z3 := fr_kept0 kFz3 kp'z3; have N'z3 := news_kept0 kNz3 kp'z3; clear kp'z3 kFz3 kNz3; (try dsimp only); (try k_sweep)) | ((with_reducible show wpAny _ _ (pyIter (Value.ref _)) _ _ _); (k_here; (with_reducible show wpAny _ _ (pyIter _) (fun _ _ => ForAt _ _ _ _ _ _ _ _ _ _ _) _ _); refine halt ?_)) | ((with_reducible show wpAny _ _ (exec (Stmt.For _ _ _ _ _) _) _ _ _); k_here; refine halt ?_) | ((with_reducible show wpAny _ _ (call (Value.builtin "str.replace") _ _) _ _ _); (k_here; (with_reducible show wpAny _ _ (call (Value.builtin "str.replace") _) _ _ _); refine halt ?_)) | row_room_at HB | (dsimp only; (first | ((with_reducible show wpAny _ _ (call (Value.ref 63) _) _ _ _); k_here; refine halt ?_) | ((with_reducible show wpAny _ _ (call (Value.ref 22) _) _ _ _); k_here; (with_reducible rename Fr _ _ _ _ => kFz3); (with_reducible rename News _ _ _ _ => kNz3); (with_reducible rename _ < 32 => kHz3); refine wpAny_with_toks (n := 1) (by ((try dsimp only); omega)) ?n2; refine' pretty_call (by (first | exact lim2 hdp rfl | exact lim1 hdp rfl | exact lim2 hun rfl | exact lim1 hun rfl | exact lim0 hdp | exact lim0 hun | exact lim3 hdp rfl | exact lim3 hun rfl | ((try dsimp only [arA, Around.deeper]); omega))) (by (first | exact lim2 hdp rfl | exact lim1 hdp rfl | exact lim2 hun rfl | exact lim1 hun rfl | exact lim0 hdp | exact lim0 hun | exact lim3 hdp rfl | exact lim3 hun rfl | ((try dsimp only [arA, Around.deeper]); omega))) (by assumption) (by assumption) (Fr.keep kFz3) kHz3 ?_; intro t'z3 h'z3 tk'z3 kp'z3 hTKz3; have F'z3 := fr_kept0 kFz3 kp'z3; have N'z3 := news_kept0 kNz3 kp'z3; clear kp'z3 kFz3 kNz3; (try dsimp only); (try k_sweep)) | ((with_reducible show wpAny _ _ (pyIter (Value.ref _)) _ _ _); (k_here; (with_reducible show wpAny _ _ (pyIter _) (fun _ _ => ForAt _ _ _ _ _ _ _ _ _ _ _) _ _); refine halt ?_)) | ((with_reducible show wpAny _ _ (exec (Stmt.For _ _ _ _ _) _) _ _ _); k_here; refine halt ?_) | ((with_reducible show wpAny _ _ (call (Value.builtin "str.replace") _ _) _ _ _); (k_here; (with_reducible show wpAny _ _ (call (Value.builtin "str.replace") _) _ _ _); refine halt ?_)) | walk1 | row_room_at HE)) | (leave1; walk_say "STEP leave1"; try dsimp only)))
      refine go ?_
      (with_reducible rename Fr _ _ _ _ => F2)
      (with_reducible rename News _ _ _ _ => N2)
      refine' ell_call ?ea ?eb X' T' ?est p1 p2 p3 p4 p5 (pretty_len mm hmm32) ?_
      (case ea => (first | exact lim2 hdp rfl | exact lim1 hdp rfl | exact lim2 hun rfl | exact lim1 hun rfl | exact lim0 hdp | exact lim0 hun | exact lim3 hdp rfl | exact lim3 hun rfl | ((try dsimp only [arA, Around.deeper]); omega)))
      (case eb => (first | exact lim2 hdp rfl | exact lim1 hdp rfl | exact lim2 hun rfl | exact lim1 hun rfl | exact lim0 hdp | exact lim0 hun | exact lim3 hdp rfl | exact lim3 hun rfl | ((try dsimp only [arA, Around.deeper]); omega)))
      (case est => exact F2.keep)
      intro h3 tk3 kp3
      have F3 := fr_kept0 F2 kp3
      have N3 := news_kept0 N2 kp3
      clear kp3 F2 N2
      rw [ell_law mask (by assumption) hb mm hmm32]
      (try dsimp only)
      by_cases hit : (mask &&& mm == mask) = true
      · rw [hit]
        (repeat' (first | (k_unfold; (try dsimp only)) | row_room_at HE | (k_end; wrow_close) | ((with_reducible show wpAny _ _ (call (Value.ref 63) _) _ _ _); k_here; refine halt ?_) | ((with_reducible show wpAny _ _ (call (Value.ref 22) _) _ _ _); k_here; (with_reducible rename Fr _ _ _ _ => kFz3); (with_reducible rename News _ _ _ _ => kNz3); (with_reducible rename _ < 32 => kHz3); refine wpAny_with_toks (n := 1) (by ((try dsimp only); omega)) ?n2; refine' pretty_call (by (first | exact lim2 hdp rfl | exact lim1 hdp rfl | exact lim2 hun rfl | exact lim1 hun rfl | exact lim0 hdp | exact lim0 hun | exact lim3 hdp rfl | exact lim3 hun rfl | ((try dsimp only [arA, Around.deeper]); omega))) (by (first | exact lim2 hdp rfl | exact lim1 hdp rfl | exact lim2 hun rfl | exact lim1 hun rfl | exact lim0 hdp | exact lim0 hun | exact lim3 hdp rfl | exact lim3 hun rfl | ((try dsimp only [arA, Around.deeper]); omega))) (by assumption) (by assumption) (Fr.keep kFz3) kHz3 ?_; intro t'z3 h'z3 tk'z3 kp'z3 hTKz3; have F'z3 := fr_kept0 kFz3 kp'z3; have N'z3 := news_kept0 kNz3 kp'z3; clear kp'z3 kFz3 kNz3; (try dsimp only); (try k_sweep)) | ((with_reducible show wpAny _ _ (pyIter (Value.ref _)) _ _ _); (k_here; (with_reducible show wpAny _ _ (pyIter _) (fun _ _ => ForAt _ _ _ _ _ _ _ _ _ _ _) _ _); refine halt ?_)) | ((with_reducible show wpAny _ _ (exec (Stmt.For _ _ _ _ _) _) _ _ _); k_here; refine halt ?_) | ((with_reducible show wpAny _ _ (call (Value.builtin "str.replace") _ _) _ _ _); (k_here; (with_reducible show wpAny _ _ (call (Value.builtin "str.replace") _) _ _ _); refine halt ?_)) | row_room_at HB | (dsimp only; (first | ((with_reducible show wpAny _ _ (call (Value.ref 63) _) _ _ _); k_here; refine halt ?_) | ((with_reducible show wpAny _ _ (call (Value.ref 22) _) _ _ _); k_here; (with_reducible rename Fr _ _ _ _ => kFz3); (with_reducible rename News _ _ _ _ => kNz3); (with_reducible rename _ < 32 => kHz3); refine wpAny_with_toks (n := 1) (by ((try dsimp only); omega)) ?n2; refine' pretty_call (by (first | exact lim2 hdp rfl | exact lim1 hdp rfl | exact lim2 hun rfl | exact lim1 hun rfl | exact lim0 hdp | exact lim0 hun | exact lim3 hdp rfl | exact lim3 hun rfl | ((try dsimp only [arA, Around.deeper]); omega))) (by (first | exact lim2 hdp rfl | exact lim1 hdp rfl | exact lim2 hun rfl | exact lim1 hun rfl | exact lim0 hdp | exact lim0 hun | exact lim3 hdp rfl | exact lim3 hun rfl | ((try dsimp only [arA, Around.deeper]); omega))) (by assumption) (by assumption) (Fr.keep kFz3) kHz3 ?_; intro t'z3 h'z3 tk'z3 kp'z3 hTKz3; have F'z3 := fr_kept0 kFz3 kp'z3; have N'z3 := news_kept0 kNz3 kp'z3; clear kp'z3 kFz3 kNz3; (try dsimp only); (try k_sweep)) | ((with_reducible show wpAny _ _ (pyIter (Value.ref _)) _ _ _); (k_here; (with_reducible show wpAny _ _ (pyIter _) (fun _ _ => ForAt _ _ _ _ _ _ _ _ _ _ _) _ _); refine halt ?_)) | ((with_reducible show wpAny _ _ (exec (Stmt.For _ _ _ _ _) _) _ _ _); k_here; refine halt ?_) | ((with_reducible show wpAny _ _ (call (Value.builtin "str.replace") _ _) _ _ _); (k_here; (with_reducible show wpAny _ _ (call (Value.builtin "str.replace") _) _ _ _); refine halt ?_)) | walk1 | row_room_at HE)) | (leave1; walk_say "STEP leave1"; try dsimp only)))
        (try dsimp only)
        (try dsimp only [FPost])
        (repeat (first | (k_unfold; (try dsimp only)) | row_room_at HE | dsimp only))
        (try dsimp only)
        have e : (ms.any fun m => mask &&& m == mask) = true := List.any_eq_true.mpr ⟨mm, List.mem_of_getElem? hmm, hit⟩
        rw [e] at ret
        exact ret _ _ (kept_ro kp' F3 (news_tail N3) hn)
      · rw [Bool.not_eq_true] at hit
        rw [hit]
        (repeat' (first | (k_unfold; (try dsimp only)) | row_room_at HE | (k_end; wrow_close) | ((with_reducible show wpAny _ _ (call (Value.ref 63) _) _ _ _); k_here; refine halt ?_) | ((with_reducible show wpAny _ _ (call (Value.ref 22) _) _ _ _); k_here; (with_reducible rename Fr _ _ _ _ => kFz3); (with_reducible rename News _ _ _ _ => kNz3); (with_reducible rename _ < 32 => kHz3); refine wpAny_with_toks (n := 1) (by ((try dsimp only); omega)) ?n2; refine' pretty_call (by (first | exact lim2 hdp rfl | exact lim1 hdp rfl | exact lim2 hun rfl | exact lim1 hun rfl | exact lim0 hdp | exact lim0 hun | exact lim3 hdp rfl | exact lim3 hun rfl | ((try dsimp only [arA, Around.deeper]); omega))) (by (first | exact lim2 hdp rfl | exact lim1 hdp rfl | exact lim2 hun rfl | exact lim1 hun rfl | exact lim0 hdp | exact lim0 hun | exact lim3 hdp rfl | exact lim3 hun rfl | ((try dsimp only [arA, Around.deeper]); omega))) (by assumption) (by assumption) (Fr.keep kFz3) kHz3 ?_; intro t'z3 h'z3 tk'z3 kp'z3 hTKz3; have F'z3 := fr_kept0 kFz3 kp'z3; have N'z3 := news_kept0 kNz3 kp'z3; clear kp'z3 kFz3 kNz3; (try dsimp only); (try k_sweep)) | ((with_reducible show wpAny _ _ (pyIter (Value.ref _)) _ _ _); (k_here; (with_reducible show wpAny _ _ (pyIter _) (fun _ _ => ForAt _ _ _ _ _ _ _ _ _ _ _) _ _); refine halt ?_)) | ((with_reducible show wpAny _ _ (exec (Stmt.For _ _ _ _ _) _) _ _ _); k_here; refine halt ?_) | ((with_reducible show wpAny _ _ (call (Value.builtin "str.replace") _ _) _ _ _); (k_here; (with_reducible show wpAny _ _ (call (Value.builtin "str.replace") _) _ _ _); refine halt ?_)) | row_room_at HB | (dsimp only; (first | ((with_reducible show wpAny _ _ (call (Value.ref 63) _) _ _ _); k_here; refine halt ?_) | ((with_reducible show wpAny _ _ (call (Value.ref 22) _) _ _ _); k_here; (with_reducible rename Fr _ _ _ _ => kFz3); (with_reducible rename News _ _ _ _ => kNz3); (with_reducible rename _ < 32 => kHz3); refine wpAny_with_toks (n := 1) (by ((try dsimp only); omega)) ?n2; refine' pretty_call (by (first | exact lim2 hdp rfl | exact lim1 hdp rfl | exact lim2 hun rfl | exact lim1 hun rfl | exact lim0 hdp | exact lim0 hun | exact lim3 hdp rfl | exact lim3 hun rfl | ((try dsimp only [arA, Around.deeper]); omega))) (by (first | exact lim2 hdp rfl | exact lim1 hdp rfl | exact lim2 hun rfl | exact lim1 hun rfl | exact lim0 hdp | exact lim0 hun | exact lim3 hdp rfl | exact lim3 hun rfl | ((try dsimp only [arA, Around.deeper]); omega))) (by assumption) (by assumption) (Fr.keep kFz3) kHz3 ?_; intro t'z3 h'z3 tk'z3 kp'z3 hTKz3; have F'z3 := fr_kept0 kFz3 kp'z3; have N'z3 := news_kept0 kNz3 kp'z3; clear kp'z3 kFz3 kNz3; (try dsimp only); (try k_sweep)) | ((with_reducible show wpAny _ _ (pyIter (Value.ref _)) _ _ _); (k_here; (with_reducible show wpAny _ _ (pyIter _) (fun _ _ => ForAt _ _ _ _ _ _ _ _ _ _ _) _ _); refine halt ?_)) | ((with_reducible show wpAny _ _ (exec (Stmt.For _ _ _ _ _) _) _ _ _); k_here; refine halt ?_) | ((with_reducible show wpAny _ _ (call (Value.builtin "str.replace") _ _) _ _ _); (k_here; (with_reducible show wpAny _ _ (call (Value.builtin "str.replace") _) _ _ _); refine halt ?_)) | walk1 | row_room_at HE)) | (leave1; walk_say "STEP leave1"; try dsimp only)))
        refine fEnd F3 N3 (fun _ hp => hp) off ⟨⟨_, rfl, trivial⟩, rfl, ?_⟩
        rw [tk1, List.any_append, hf]
        simp [hit]
    · intro m news h tk jz4
      (refine hideP ?_; intro PP hPP); (obtain ⟨⟨tP, e1⟩, rfl, hf⟩ := jz4) <;> (refine hPP ?_; clear hPP; clear PP)
      intro F N
      replace F := fr_knows e1 F
      clear e1
      (try dsimp only)
      (repeat' (first | (k_unfold; (try dsimp only)) | row_room_at HE | (k_end; wrow_close) | ((with_reducible show wpAny _ _ (call (Value.ref 63) _) _ _ _); k_here; refine halt ?_) | ((with_reducible show wpAny _ _ (call (Value.ref 22) _) _ _ _); k_here; (with_reducible rename Fr _ _ _ _ => kFz3); (with_reducible rename News _ _ _ _ => kNz3); (with_reducible rename _ < 32 => kHz3); refine wpAny_with_toks (n := 1) (by ((try dsimp only); omega)) ?n2; refine' pretty_call (by (first | exact lim2 hdp rfl | exact lim1 hdp rfl | exact lim2 hun rfl | exact lim1 hun rfl | exact lim0 hdp | exact lim0 hun | exact lim3 hdp rfl | exact lim3 hun rfl | ((try dsimp only [arA, Around.deeper]); omega))) (by (first | exact lim2 hdp rfl | exact lim1 hdp rfl | exact lim2 hun rfl | exact lim1 hun rfl | exact lim0 hdp | exact lim0 hun | exact lim3 hdp rfl | exact lim3 hun rfl | ((try dsimp only [arA, Around.deeper]); omega))) (by assumption) (by assumption) (Fr.keep kFz3) kHz3 ?_; intro t'z3 h'z3 tk'z3 kp'z3 hTKz3; have F'z3 := fr_kept0 kFz3 kp'z3; have N'z3 := news_kept0 kNz3 kp'z3; clear kp'z3 kFz3 kNz3; (try dsimp only); (try k_sweep)) | ((with_reducible show wpAny _ _ (pyIter (Value.ref _)) _ _ _); (k_here; (with_reducible show wpAny _ _ (pyIter _) (fun _ _ => ForAt _ _ _ _ _ _ _ _ _ _ _) _ _); refine halt ?_)) | ((with_reducible show wpAny _ _ (exec (Stmt.For _ _ _ _ _) _) _ _ _); k_here; refine halt ?_) | ((with_reducible show wpAny _ _ (call (Value.builtin "str.replace") _ _) _ _ _); (k_here; (with_reducible show wpAny _ _ (call (Value.builtin "str.replace") _) _ _ _); refine halt ?_)) | row_room_at HB | (dsimp only; (first | ((with_reducible show wpAny _ _ (call (Value.ref 63) _) _ _ _); k_here; refine halt ?_) | ((with_reducible show wpAny _ _ (call (Value.ref 22) _) _ _ _); k_here; (with_reducible rename Fr _ _ _ _ => kFz3); (with_reducible rename News _ _ _ _ => kNz3); (with_reducible rename _ < 32 => kHz3); refine wpAny_with_toks (n := 1) (by ((try dsimp only); omega)) ?n2; refine' pretty_call (by (first | exact lim2 hdp rfl | exact lim1 hdp rfl | exact lim2 hun rfl | exact lim1 hun rfl | exact lim0 hdp | exact lim0 hun | exact lim3 hdp rfl | exact lim3 hun rfl | ((try dsimp only [arA, Around.deeper]); omega))) (by (first | exact lim2 hdp rfl | exact lim1 hdp rfl | exact lim2 hun rfl | exact lim1 hun rfl | exact lim0 hdp | exact lim0 hun | exact lim3 hdp rfl | exact lim3 hun rfl | ((try dsimp only [arA, Around.deeper]); omega))) (by assumption) (by assumption) (Fr.keep kFz3) kHz3 ?_; intro t'z3 h'z3 tk'z3 kp'z3 hTKz3; have F'z3 := fr_kept0 kFz3 kp'z3; have N'z3 := news_kept0 kNz3 kp'z3; clear kp'z3 kFz3 kNz3; (try dsimp only); (try k_sweep)) | ((with_reducible show wpAny _ _ (pyIter (Value.ref _)) _ _ _); (k_here; (with_reducible show wpAny _ _ (pyIter _) (fun _ _ => ForAt _ _ _ _ _ _ _ _ _ _ _) _ _); refine halt ?_)) | ((with_reducible show wpAny _ _ (exec (Stmt.For _ _ _ _ _) _) _ _ _); k_here; refine halt ?_) | ((with_reducible show wpAny _ _ (call (Value.builtin "str.replace") _ _) _ _ _); (k_here; (with_reducible show wpAny _ _ (call (Value.builtin "str.replace") _) _ _ _); refine halt ?_)) | walk1 | row_room_at HE)) | (leave1; walk_say "STEP leave1"; try dsimp only)))
      (try dsimp only)
      (repeat (first | (k_unfold; (try dsimp only)) | row_room_at HE | dsimp only))
      (try dsimp only)
      have hl : tv.length = ms.length := by rw [tvs.len_eq, List.length_map]
      rw [hl, List.take_length] at hf
      rw [hf] at ret
      exact ret _ _ (kept_ro kp' F N hn)
end

/-! T_lev -/
theorem flushT_lev : True ∧ True := by first | (row_walk; done) | (walk1; done) | exact ⟨trivial, trivial⟩
noncomputable def levelF (k i : Nat) : List Int := ((List.range (i + 1)).filter fun m => bitsF 5 m == k).map fun n : Nat => (n : Int)
noncomputable def countsF (i : Nat) : List Int := (List.range (i + 1)).map fun m => ((bitsF 5 m : Nat) : Int)
theorem ints_snoc {vs : List Value} {ns : List Int} (h : IntsAre vs ns) (n : Int) (t : Tok) : IntsAre (vs ++ [.int n t]) (ns ++ [n]) := by
  induction h with
  | nil => exact .cons _ _ .nil
  | cons a t' _ ih => exact .cons a t' ih
theorem countsF_succ (i : Nat) : countsF (i + 1) = countsF i ++ [((bitsF 5 (i + 1) : Nat) : Int)] := by
  unfold countsF; rw [List.range_succ, List.map_append]; rfl
theorem levelF_succ (k i : Nat) : levelF k (i + 1) = if bitsF 5 (i + 1) = k then levelF k i ++ [((i + 1 : Nat) : Int)] else levelF k i := by
  unfold levelF
  rw [List.range_succ, List.filter_append, List.map_append]
  by_cases h : bitsF 5 (i + 1) = k
  · rw [if_pos h]; simp [h]
  · rw [if_neg h]; simp [h]
theorem lev_count : ∀ i : Nat, i < 31 → ((bitsF 5 ((i + 1) / 2) : Nat) : Int) + Int.fmod (1 + (i : Int)) 2 = ((bitsF 5 (i + 1) : Nat) : Int) ∧ 1 ≤ bitsF 5 (i + 1) ∧ bitsF 5 (i + 1) ≤ 5 ∧ Int.fdiv (1 + (i : Int)) 2 = (((i + 1) / 2 : Nat) : Int) := by decide +kernel
theorem get_K {prog : Program} {w : World} {A : Around} {E : Value → Shared → Prop} {s : Shared} {g : Heap} {L : Addr} {news : List (Addr × Obj)} {D : Addr} {its : Array Value} {n : Nat} {i : Int} {t : Tok} {x : Value} {Q : Value → Shared → Prop} (N : News g L s.heap news) (hm : (D, listOf its n) ∈ news)
    (h0 : 0 ≤ i) (hf : i < 2 ^ 63) (hx : its[i.toNat]? = some x) (h : Q x s) : wpAny (model prog w) A (getItem (.ref D) (.int i t)) Q E s :=
  wpAny_getItem_list ⟨_, (N _ hm).1, rfl, _, rfl⟩ h0 hf hx h
theorem tail_K {prog : Program} {w : World} {A : Around} {E : Value → Shared → Prop} {s : Shared} {g : Heap} {L : Addr} {news : List (Addr × Obj)} {D : Addr} {its : Array Value} {n : Nat} {i : Int} {t : Tok} {x : Value} {value slice : PySem.Expr} {Q : Value → Shared → Prop} (N : News g L s.heap news) (hm : (D, listOf its n) ∈ news)
    (h0 : 0 ≤ i) (hf : i < 2 ^ 63) (hx : its[i.toNat]? = some x) (h : Q x s) (hs : subscripted slice false (.ref D) (.int i t) = operate [.ref D, .int i t] (getItem (.ref D) (.int i t)) := by with_unfolding_all rfl) (hg : ∀ r, letTemporaryGo value (.ref D) r = pure () := by intro _; with_unfolding_all rfl) : wpAny (model prog w) A (subscriptTail value slice (.ref D) (.int i t)) Q E s :=
  have hl : s.heap.IsList D its := ⟨_, (N _ hm).1, rfl, _, rfl⟩
  subscriptTail_builtin hl.typeIs slot_list_getitem.lookup (wpAny_getItem_list hl h0 hf hx h) hs hg
theorem lev_pack {g h : Heap} {L C : Addr} {p1 p2 p3 p4 p5 p6 : Addr × Obj} {vs : List Value} {x : Int} {t : Tok} {nn : Nat} {ns : List Int} (N : News g L h [p1, p2, p3, p4, p5, p6, (C, listOf (vs.toArray.push (.int x t)) nn)]) (cs : IntsAre vs ns) :
    ∃ vs', IntsAre vs' (ns ++ [x]) ∧ News g L h [p1, p2, p3, p4, p5, p6, (C, listOf vs'.toArray nn)] := ⟨_, ints_snoc cs _ _, by rw [← List.push_toArray]; exact N⟩
theorem levelF_len {i : Nat} (k : Nat) (h : i ≤ 31) : (levelF k i).length ≤ 32 := by
  unfold levelF
  rw [List.length_map]
  refine Nat.le_trans (List.length_filter_le _ _) ?_
  rw [List.length_range]; omega
theorem countsF_get {vs : List Value} {i j : Nat} (h : IntsAre vs (countsF i)) (hj : j ≤ i) : ∃ t, vs[j]? = some (.int ((bitsF 5 j : Nat) : Int) t) := by
  refine h.get j _ ?_
  unfold countsF
  rw [List.getElem?_map, List.getElem?_range (by omega)]
  rfl
section
theorem levels_call {w : World} {p : Program} {loose : List Str} {mean : ExcName → Option Value} {mg mb : Str → Option Value} {dp un : Nat} {fs : Option (List Env)} {gd : Option (List Code)} {h₀ : Heap} {s : Shared} {Q E : Value → Shared → Prop}
  (hdp : dp + 4 < recursionLimit) (hun : un + 32 < cLine)
  (X₀ : (hd.heap_39 w.params).In h₀) (T : Top p loose mean mg mb h₀) (st : h₀.StaysIn s.heap)
  (ret : ∀ h' tk' (D a0 a1 a2 a3 : Addr) (n n0 n1 n2 n3 : Nat) (v0 v1 v2 v3 : List Value), IntsAre v0 (levelF 0 31) → IntsAre v1 (levelF 1 31) → IntsAre v2 (levelF 2 31) → IntsAre v3 (levelF 3 31) →
    a0 < a1 ∧ a1 < a2 ∧ a2 < a3 ∧ a3 < D → Kept s.heap h' [] → (∀ q ∈ [(D, listOf #[.ref a0, .ref a1, .ref a2, .ref a3] n), (a0, listOf v0.toArray n0), (a1, listOf v1.toArray n1), (a2, listOf v2.toArray n2), (a3, listOf v3.toArray n3)], h'.get? q.1 = some q.2 ∧ s.heap.get? q.1 = none) →
    Q (.ref D) { s with heap := h', toks := tk' }) :
  wpAny (model PySem.Challenge.rw_ty0032_01.row.prog w) (arA dp un fs gd) (call (.ref 129) []) Q E s := by
    refine wpAny_call ?_
    k_dflt (refine' enterP [] (binds := []) ?k1 ?k2 ?k3 ?k4 ?k5 ?k6 ?k7 ?k9 ?kB ?_ ?c2 ?c3 ?c4 ?c5; (case k2 => k_asm); (case k3 => k_asm); (case k4 => k_asm); (case k5 => first | assumption | exact fun _ h => nomatch h); (case k6 => k_is); (case k7 => k_is); (case k1 => (first | exact lim0 hdp | (show dp < recursionLimit; omega))); (case k9 => first | exact BindsTo.of_eq rfl | exact binds_K (by k_in) rfl (by k_is) rfl rfl rfl | exact kp_binds (by exact Frag.In.keeps (by assumption) (by assumption)) (fun _ => rfl)); (case c5 => decide); (case kB => exact locs rfl); (case c2 => exact rfl); (case c3 => exact rfl); (case c4 => exact rfl); k_whole; intro g' L' h' tkE F' N' X' T' lt' kp' fr' st'; (try dsimp only); (try k_fold))
    (repeat' (first | (k_unfold; (try dsimp only)) | row_room_at HE | (k_end; wrow_close) | ((with_reducible show wpAny _ _ (pyIter (Value.ref _)) _ _ _); (k_here; (with_reducible show wpAny _ _ (pyIter _) (fun _ _ => ForAt _ _ _ _ _ _ _ _ _ _ _) _ _); refine halt ?_)) | ((with_reducible show wpAny _ _ (exec (Stmt.For _ _ _ _ _) _) _ _ _); k_here; refine halt ?_) | ((with_reducible show wpAny _ _ (call (Value.builtin "list.append") _ _) _ _ _); (k_here; (with_reducible show wpAny _ _ (call (Value.builtin _) [Value.ref _, _]) _ _ _); k_dflt (refine' append_K (by k_asm) (by k_asm) (by k_upd) ?_ (by (refine size_small ?_; (try simp only [List.size_toArray]); omega)); k_whole); intro h'z2 F'z2 N'z2; (try k_sweep))) | ((with_reducible show wpAny _ _ (getItem (Value.ref _) (Value.int _ _)) _ _ _); k_here; refine halt ?_) | ((with_reducible show wpAny _ _ (subscriptTail _ _ (Value.ref _) (Value.int _ _)) _ _ _); k_here; refine halt ?_) | row_room_at HB | (dsimp only; (first | ((with_reducible show wpAny _ _ (pyIter (Value.ref _)) _ _ _); (k_here; (with_reducible show wpAny _ _ (pyIter _) (fun _ _ => ForAt _ _ _ _ _ _ _ _ _ _ _) _ _); refine halt ?_)) | ((with_reducible show wpAny _ _ (exec (Stmt.For _ _ _ _ _) _) _ _ _); k_here; refine halt ?_) | ((with_reducible show wpAny _ _ (call (Value.builtin "list.append") _ _) _ _ _); (k_here; (with_reducible show wpAny _ _ (call (Value.builtin _) [Value.ref _, _]) _ _ _); k_dflt (refine' append_K (by k_asm) (by k_asm) (by k_upd) ?_ (by (refine size_small ?_; (try simp only [List.size_toArray]); omega)); k_whole); intro h'z2 F'z2 N'z2; (try k_sweep))) | ((with_reducible show wpAny _ _ (getItem (Value.ref _) (Value.int _ _)) _ _ _); k_here; refine halt ?_) | ((with_reducible show wpAny _ _ (subscriptTail _ _ (Value.ref _) (Value.int _ _)) _ _ _); k_here; refine halt ?_) | walk1 | row_room_at HE)) | (leave1; walk_say "STEP leave1"; try dsimp only)))
    refine go ?_
    refine For_start ?_
    (repeat' (first | (k_unfold; (try dsimp only)) | row_room_at HE | (k_end; wrow_close) | ((with_reducible show wpAny _ _ (pyIter (Value.ref _)) _ _ _); (k_here; (with_reducible show wpAny _ _ (pyIter _) (fun _ _ => ForAt _ _ _ _ _ _ _ _ _ _ _) _ _); refine halt ?_)) | ((with_reducible show wpAny _ _ (exec (Stmt.For _ _ _ _ _) _) _ _ _); k_here; refine halt ?_) | ((with_reducible show wpAny _ _ (call (Value.builtin "list.append") _ _) _ _ _); (k_here; (with_reducible show wpAny _ _ (call (Value.builtin _) [Value.ref _, _]) _ _ _); k_dflt (refine' append_K (by k_asm) (by k_asm) (by k_upd) ?_ (by (refine size_small ?_; (try simp only [List.size_toArray]); omega)); k_whole); intro h'z2 F'z2 N'z2; (try k_sweep))) | ((with_reducible show wpAny _ _ (getItem (Value.ref _) (Value.int _ _)) _ _ _); k_here; refine halt ?_) | ((with_reducible show wpAny _ _ (subscriptTail _ _ (Value.ref _) (Value.int _ _)) _ _ _); k_here; refine halt ?_) | row_room_at HB | (dsimp only; (first | ((with_reducible show wpAny _ _ (pyIter (Value.ref _)) _ _ _); (k_here; (with_reducible show wpAny _ _ (pyIter _) (fun _ _ => ForAt _ _ _ _ _ _ _ _ _ _ _) _ _); refine halt ?_)) | ((with_reducible show wpAny _ _ (exec (Stmt.For _ _ _ _ _) _) _ _ _); k_here; refine halt ?_) | ((with_reducible show wpAny _ _ (call (Value.builtin "list.append") _ _) _ _ _); (k_here; (with_reducible show wpAny _ _ (call (Value.builtin _) [Value.ref _, _]) _ _ _); k_dflt (refine' append_K (by k_asm) (by k_asm) (by k_upd) ?_ (by (refine size_small ?_; (try simp only [List.size_toArray]); omega)); k_whole); intro h'z2 F'z2 N'z2; (try k_sweep))) | ((with_reducible show wpAny _ _ (getItem (Value.ref _) (Value.int _ _)) _ _ _); k_here; refine halt ?_) | ((with_reducible show wpAny _ _ (subscriptTail _ _ (Value.ref _) (Value.int _ _)) _ _ _); k_here; refine halt ?_) | walk1 | row_room_at HE)) | (leave1; walk_say "STEP leave1"; try dsimp only)))
    refine go ?_
    rename_i C _ _ _ a0 _ q1 a1 _ q2 a2 _ q3 a3 _ q4 D _ q5 _ _ _ _ _ tr ur vr hR F1 N1 k1
    clear k1
    refine for_range (n := 31) rfl (fun i m news => i ≤ 31 ∧ ∃ (vs v0 v1 v2 v3 : List Value) (nn n0 n1 n2 n3 nD : Nat), Knows m [("counts", .ref C), ("levels", .ref D)] ∧ IntsAre vs (countsF i) ∧ IntsAre v0 (levelF 0 i) ∧ IntsAre v1 (levelF 1 i) ∧ IntsAre v2 (levelF 2 i) ∧ IntsAre v3 (levelF 3 i) ∧
        news = [(D, listOf [Value.ref a0, Value.ref a1, Value.ref a2, Value.ref a3].toArray nD), (a3, listOf v3.toArray n3), (a2, listOf v2.toArray n2), (a1, listOf v1.toArray n1), (a0, listOf v0.toArray n0), (C, listOf vs.toArray nn)])
      hR (by decide) (by rfl) F1 N1 ⟨by omega, [_], [_], [], [], [], 0, 0, 0, 0, 0, 0, ⟨rfl, rfl, trivial⟩, .cons _ _ .nil, .cons _ _ .nil, .nil, .nil, .nil, rfl⟩ ?_ ?_ PassesOwn.never
    · clear F1 N1 hR
      intro I i t m news oI h tk hI hi jz10
      (refine hideP ?_; intro PP hPP); (obtain ⟨hi31, vs, v0, v1, v2, v3, nn, n0, n1, n2, n3, nD, e1, cs, s0, s1, s2, s3, rfl⟩ := jz10) <;> (refine hPP ?_; clear hPP; clear PP)
      intro off F N
      replace F := fr_knows e1 F
      clear e1
      have o1 : @Ne Nat D I := off _ (by k_mem)
      have o2 : @Ne Nat a3 I := off (a3, listOf v3.toArray n3) (by k_mem)
      have o3 : @Ne Nat a2 I := off (a2, listOf v2.toArray n2) (by k_mem)
      have o4 : @Ne Nat a1 I := off (a1, listOf v1.toArray n1) (by k_mem)
      have o5 : @Ne Nat a0 I := off (a0, listOf v0.toArray n0) (by k_mem)
      have o6 : @Ne Nat C I := off (C, listOf vs.toArray nn) (by k_mem)
      have hvl : vs.length = i + 1 := by rw [cs.length]; simp [countsF]
      have hl0 : v0.length ≤ 32 := by rw [s0.length]; exact levelF_len 0 (by omega)
      have hl1 : v1.length ≤ 32 := by rw [s1.length]; exact levelF_len 1 (by omega)
      have hl2 : v2.length ≤ 32 := by rw [s2.length]; exact levelF_len 2 (by omega)
      have hl3 : v3.length ≤ 32 := by rw [s3.length]; exact levelF_len 3 (by omega)
      (refine hideP ?_; intro PP hPP); (obtain ⟨c1, c2, c3, c4⟩ := lev_count i hi) <;> (refine hPP ?_; clear hPP; clear PP)
      obtain ⟨tA, hA⟩ := countsF_get cs (j := (i + 1) / 2) (by omega)
      (repeat' (first | (k_unfold; (try dsimp only)) | row_room_at HE | (k_end; wrow_close) | ((with_reducible show wpAny _ _ (pyIter (Value.ref _)) _ _ _); (k_here; (with_reducible show wpAny _ _ (pyIter _) (fun _ _ => ForAt _ _ _ _ _ _ _ _ _ _ _) _ _); refine halt ?_)) | ((with_reducible show wpAny _ _ (exec (Stmt.For _ _ _ _ _) _) _ _ _); k_here; refine halt ?_) | ((with_reducible show wpAny _ _ (call (Value.builtin "list.append") _ _) _ _ _); (k_here; (with_reducible show wpAny _ _ (call (Value.builtin _) [Value.ref _, _]) _ _ _); k_dflt (refine' append_K (by k_asm) (by k_asm) (by k_upd) ?_ (by (refine size_small ?_; (try simp only [List.size_toArray]); omega)); k_whole); intro h'z2 F'z2 N'z2; (try k_sweep))) | ((with_reducible show wpAny _ _ (getItem (Value.ref _) (Value.int _ _)) _ _ _); k_here; refine halt ?_) | ((with_reducible show wpAny _ _ (subscriptTail _ _ (Value.ref _) (Value.int _ _)) _ _ _); k_here; refine halt ?_) | row_room_at HB | (dsimp only; (first | ((with_reducible show wpAny _ _ (pyIter (Value.ref _)) _ _ _); (k_here; (with_reducible show wpAny _ _ (pyIter _) (fun _ _ => ForAt _ _ _ _ _ _ _ _ _ _ _) _ _); refine halt ?_)) | ((with_reducible show wpAny _ _ (exec (Stmt.For _ _ _ _ _) _) _ _ _); k_here; refine halt ?_) | ((with_reducible show wpAny _ _ (call (Value.builtin "list.append") _ _) _ _ _); (k_here; (with_reducible show wpAny _ _ (call (Value.builtin _) [Value.ref _, _]) _ _ _); k_dflt (refine' append_K (by k_asm) (by k_asm) (by k_upd) ?_ (by (refine size_small ?_; (try simp only [List.size_toArray]); omega)); k_whole); intro h'z2 F'z2 N'z2; (try k_sweep))) | ((with_reducible show wpAny _ _ (getItem (Value.ref _) (Value.int _ _)) _ _ _); k_here; refine halt ?_) | ((with_reducible show wpAny _ _ (subscriptTail _ _ (Value.ref _) (Value.int _ _)) _ _ _); k_here; refine halt ?_) | walk1 | row_room_at HE)) | (leave1; walk_say "STEP leave1"; try dsimp only)))
      refine go ?_
      (with_reducible rename Fr _ _ _ _ => F2)
      (with_reducible rename News _ _ _ _ => N2)
      refine' tail_K (its := vs.toArray) (n := nn) (x := .int ((bitsF 5 ((i + 1) / 2) : Nat) : Int) tA) ?g1N ?g1m ?g1a ?g1b ?g1c ?_
      (case g1N => exact N2)
      (case g1m => k_mem)
      (case g1a => rw [c4]; omega)
      (case g1b => rw [c4]; omega)
      (case g1c => rw [c4, Int.toNat_natCast]; simpa using hA)
      (repeat' (first | (k_unfold; (try dsimp only)) | row_room_at HE | (k_end; wrow_close) | ((with_reducible show wpAny _ _ (pyIter (Value.ref _)) _ _ _); (k_here; (with_reducible show wpAny _ _ (pyIter _) (fun _ _ => ForAt _ _ _ _ _ _ _ _ _ _ _) _ _); refine halt ?_)) | ((with_reducible show wpAny _ _ (exec (Stmt.For _ _ _ _ _) _) _ _ _); k_here; refine halt ?_) | ((with_reducible show wpAny _ _ (call (Value.builtin "list.append") _ _) _ _ _); (k_here; (with_reducible show wpAny _ _ (call (Value.builtin _) [Value.ref _, _]) _ _ _); k_dflt (refine' append_K (by k_asm) (by k_asm) (by k_upd) ?_ (by (refine size_small ?_; (try simp only [List.size_toArray]); omega)); k_whole); intro h'z2 F'z2 N'z2; (try k_sweep))) | ((with_reducible show wpAny _ _ (getItem (Value.ref _) (Value.int _ _)) _ _ _); k_here; refine halt ?_) | ((with_reducible show wpAny _ _ (subscriptTail _ _ (Value.ref _) (Value.int _ _)) _ _ _); k_here; refine halt ?_) | row_room_at HB | (dsimp only; (first | ((with_reducible show wpAny _ _ (pyIter (Value.ref _)) _ _ _); (k_here; (with_reducible show wpAny _ _ (pyIter _) (fun _ _ => ForAt _ _ _ _ _ _ _ _ _ _ _) _ _); refine halt ?_)) | ((with_reducible show wpAny _ _ (exec (Stmt.For _ _ _ _ _) _) _ _ _); k_here; refine halt ?_) | ((with_reducible show wpAny _ _ (call (Value.builtin "list.append") _ _) _ _ _); (k_here; (with_reducible show wpAny _ _ (call (Value.builtin _) [Value.ref _, _]) _ _ _); k_dflt (refine' append_K (by k_asm) (by k_asm) (by k_upd) ?_ (by (refine size_small ?_; (try simp only [List.size_toArray]); omega)); k_whole); intro h'z2 F'z2 N'z2; (try k_sweep))) | ((with_reducible show wpAny _ _ (getItem (Value.ref _) (Value.int _ _)) _ _ _); k_here; refine halt ?_) | ((with_reducible show wpAny _ _ (subscriptTail _ _ (Value.ref _) (Value.int _ _)) _ _ _); k_here; refine halt ?_) | walk1 | row_room_at HE)) | (leave1; walk_say "STEP leave1"; try dsimp only)))
      refine go ?_
      (with_reducible rename Fr _ _ _ _ => F3)
      (with_reducible rename News _ _ _ _ => N3)
      (refine hideP ?_; intro PP hPP); (obtain ⟨vs', cs', N3'⟩ := lev_pack N3 cs) <;> (refine hPP ?_; clear hPP; clear PP)
      clear N3
      rw [c1, ← countsF_succ] at cs'
      obtain ⟨tB, hB⟩ := countsF_get cs' (j := i + 1) (Nat.le_refl _)
      have jx : (1 + (i : Int)).toNat = i + 1 := by omega
      have hc5 : bitsF 5 (i + 1) = 1 ∨ bitsF 5 (i + 1) = 2 ∨ bitsF 5 (i + 1) = 3 ∨ bitsF 5 (i + 1) = 4 ∨ bitsF 5 (i + 1) = 5 := by omega
      clear c1 c2 c3 c4 hA
      rcases hc5 with hc | hc | hc | hc | hc
      · rw [hc] at hB
        (with_reducible rename News _ _ _ _ => N4)
        refine' tail_K (its := vs'.toArray) (n := nn + 1) (x := .int 1 tB) ?g14N ?g14m ?g14a ?g14b ?g14c ?_
        (case g14N => exact N4)
        (case g14m => k_mem)
        (case g14a => omega)
        (case g14b => omega)
        (case g14c => rw [jx]; simpa using hB)
        (repeat' (first | (k_unfold; (try dsimp only)) | row_room_at HE | (k_end; wrow_close) | ((with_reducible show wpAny _ _ (pyIter (Value.ref _)) _ _ _); (k_here; (with_reducible show wpAny _ _ (pyIter _) (fun _ _ => ForAt _ _ _ _ _ _ _ _ _ _ _) _ _); refine halt ?_)) | ((with_reducible show wpAny _ _ (exec (Stmt.For _ _ _ _ _) _) _ _ _); k_here; refine halt ?_) | ((with_reducible show wpAny _ _ (call (Value.builtin "list.append") _ _) _ _ _); (k_here; (with_reducible show wpAny _ _ (call (Value.builtin _) [Value.ref _, _]) _ _ _); k_dflt (refine' append_K (by k_asm) (by k_asm) (by k_upd) ?_ (by (refine size_small ?_; (try simp only [List.size_toArray]); omega)); k_whole); intro h'z2 F'z2 N'z2; (try k_sweep))) | ((with_reducible show wpAny _ _ (getItem (Value.ref _) (Value.int _ _)) _ _ _); k_here; refine halt ?_) | ((with_reducible show wpAny _ _ (subscriptTail _ _ (Value.ref _) (Value.int _ _)) _ _ _); k_here; refine halt ?_) | row_room_at HB | (dsimp only; (first | ((with_reducible show wpAny _ _ (pyIter (Value.ref _)) _ _ _); (k_here; (with_reducible show wpAny _ _ (pyIter _) (fun _ _ => ForAt _ _ _ _ _ _ _ _ _ _ _) _ _); refine halt ?_)) | ((with_reducible show wpAny _ _ (exec (Stmt.For _ _ _ _ _) _) _ _ _); k_here; refine halt ?_) | ((with_reducible show wpAny _ _ (call (Value.builtin "list.append") _ _) _ _ _); (k_here; (with_reducible show wpAny _ _ (call (Value.builtin _) [Value.ref _, _]) _ _ _); k_dflt (refine' append_K (by k_asm) (by k_asm) (by k_upd) ?_ (by (refine size_small ?_; (try simp only [List.size_toArray]); omega)); k_whole); intro h'z2 F'z2 N'z2; (try k_sweep))) | ((with_reducible show wpAny _ _ (getItem (Value.ref _) (Value.int _ _)) _ _ _); k_here; refine halt ?_) | ((with_reducible show wpAny _ _ (subscriptTail _ _ (Value.ref _) (Value.int _ _)) _ _ _); k_here; refine halt ?_) | walk1 | row_room_at HE)) | (leave1; walk_say "STEP leave1"; try dsimp only)))
        refine go ?_
        (with_reducible rename News _ _ _ _ => N5)
        refine' tail_K (its := vs'.toArray) (n := nn + 1) (x := .int 1 tB) ?g15N ?g15m ?g15a ?g15b ?g15c ?_
        (case g15N => exact N5)
        (case g15m => k_mem)
        (case g15a => omega)
        (case g15b => omega)
        (case g15c => rw [jx]; simpa using hB)
        (repeat' (first | (k_unfold; (try dsimp only)) | row_room_at HE | (k_end; wrow_close) | ((with_reducible show wpAny _ _ (pyIter (Value.ref _)) _ _ _); (k_here; (with_reducible show wpAny _ _ (pyIter _) (fun _ _ => ForAt _ _ _ _ _ _ _ _ _ _ _) _ _); refine halt ?_)) | ((with_reducible show wpAny _ _ (exec (Stmt.For _ _ _ _ _) _) _ _ _); k_here; refine halt ?_) | ((with_reducible show wpAny _ _ (call (Value.builtin "list.append") _ _) _ _ _); (k_here; (with_reducible show wpAny _ _ (call (Value.builtin _) [Value.ref _, _]) _ _ _); k_dflt (refine' append_K (by k_asm) (by k_asm) (by k_upd) ?_ (by (refine size_small ?_; (try simp only [List.size_toArray]); omega)); k_whole); intro h'z2 F'z2 N'z2; (try k_sweep))) | ((with_reducible show wpAny _ _ (getItem (Value.ref _) (Value.int _ _)) _ _ _); k_here; refine halt ?_) | ((with_reducible show wpAny _ _ (subscriptTail _ _ (Value.ref _) (Value.int _ _)) _ _ _); k_here; refine halt ?_) | row_room_at HB | (dsimp only; (first | ((with_reducible show wpAny _ _ (pyIter (Value.ref _)) _ _ _); (k_here; (with_reducible show wpAny _ _ (pyIter _) (fun _ _ => ForAt _ _ _ _ _ _ _ _ _ _ _) _ _); refine halt ?_)) | ((with_reducible show wpAny _ _ (exec (Stmt.For _ _ _ _ _) _) _ _ _); k_here; refine halt ?_) | ((with_reducible show wpAny _ _ (call (Value.builtin "list.append") _ _) _ _ _); (k_here; (with_reducible show wpAny _ _ (call (Value.builtin _) [Value.ref _, _]) _ _ _); k_dflt (refine' append_K (by k_asm) (by k_asm) (by k_upd) ?_ (by (refine size_small ?_; (try simp only [List.size_toArray]); omega)); k_whole); intro h'z2 F'z2 N'z2; (try k_sweep))) | ((with_reducible show wpAny _ _ (getItem (Value.ref _) (Value.int _ _)) _ _ _); k_here; refine halt ?_) | ((with_reducible show wpAny _ _ (subscriptTail _ _ (Value.ref _) (Value.int _ _)) _ _ _); k_here; refine halt ?_) | walk1 | row_room_at HE)) | (leave1; walk_say "STEP leave1"; try dsimp only)))
        refine go ?_
        (with_reducible rename News _ _ _ _ => N6)
        refine' tail_K (its := [Value.ref a0, Value.ref a1, Value.ref a2, Value.ref a3].toArray) (n := nD) (x := .ref a1) ?g16N ?g16m ?g16a ?g16b ?g16c ?_
        (case g16N => exact N6)
        (case g16m => k_mem)
        (case g16a => decide)
        (case g16b => decide)
        (case g16c => rfl)
        (repeat' (first | (k_unfold; (try dsimp only)) | row_room_at HE | (k_end; wrow_close) | ((with_reducible show wpAny _ _ (pyIter (Value.ref _)) _ _ _); (k_here; (with_reducible show wpAny _ _ (pyIter _) (fun _ _ => ForAt _ _ _ _ _ _ _ _ _ _ _) _ _); refine halt ?_)) | ((with_reducible show wpAny _ _ (exec (Stmt.For _ _ _ _ _) _) _ _ _); k_here; refine halt ?_) | ((with_reducible show wpAny _ _ (call (Value.builtin "list.append") _ _) _ _ _); (k_here; (with_reducible show wpAny _ _ (call (Value.builtin _) [Value.ref _, _]) _ _ _); k_dflt (refine' append_K (by k_asm) (by k_asm) (by k_upd) ?_ (by (refine size_small ?_; (try simp only [List.size_toArray]); omega)); k_whole); intro h'z2 F'z2 N'z2; (try k_sweep))) | ((with_reducible show wpAny _ _ (getItem (Value.ref _) (Value.int _ _)) _ _ _); k_here; refine halt ?_) | ((with_reducible show wpAny _ _ (subscriptTail _ _ (Value.ref _) (Value.int _ _)) _ _ _); k_here; refine halt ?_) | row_room_at HB | (dsimp only; (first | ((with_reducible show wpAny _ _ (pyIter (Value.ref _)) _ _ _); (k_here; (with_reducible show wpAny _ _ (pyIter _) (fun _ _ => ForAt _ _ _ _ _ _ _ _ _ _ _) _ _); refine halt ?_)) | ((with_reducible show wpAny _ _ (exec (Stmt.For _ _ _ _ _) _) _ _ _); k_here; refine halt ?_) | ((with_reducible show wpAny _ _ (call (Value.builtin "list.append") _ _) _ _ _); (k_here; (with_reducible show wpAny _ _ (call (Value.builtin _) [Value.ref _, _]) _ _ _); k_dflt (refine' append_K (by k_asm) (by k_asm) (by k_upd) ?_ (by (refine size_small ?_; (try simp only [List.size_toArray]); omega)); k_whole); intro h'z2 F'z2 N'z2; (try k_sweep))) | ((with_reducible show wpAny _ _ (getItem (Value.ref _) (Value.int _ _)) _ _ _); k_here; refine halt ?_) | ((with_reducible show wpAny _ _ (subscriptTail _ _ (Value.ref _) (Value.int _ _)) _ _ _); k_here; refine halt ?_) | walk1 | row_room_at HE)) | (leave1; walk_say "STEP leave1"; try dsimp only)))
        (with_reducible rename Fr _ _ _ _ => F7)
        (with_reducible rename News _ _ _ _ => N7)
        rw [List.push_toArray] at N7
        refine fEnd F7 N7 (fun _ hp => hp) ?_ ⟨by omega, vs', v0, _, v2, v3, _, _, _, _, _, _, ⟨rfl, rfl, trivial⟩, cs', ?_, ?_, ?_, ?_, rfl⟩
        · intro q hq
          revert hq
          revert q
          refine' all_cons ?_ (all_cons ?_ (all_cons ?_ (all_cons ?_ (all_cons ?_ (all_cons ?_ (all_nil))))))
          · exact o1
          · exact o2
          · exact o3
          · exact o4
          · exact o5
          · exact o6
        · rw [levelF_succ, hc]; rw [if_neg (by decide)]; exact s0
        · rw [levelF_succ, hc]; rw [if_pos rfl, show ((i + 1 : Nat) : Int) = 1 + (i : Int) by omega]; exact ints_snoc s1 _ _
        · rw [levelF_succ, hc]; rw [if_neg (by decide)]; exact s2
        · rw [levelF_succ, hc]; rw [if_neg (by decide)]; exact s3
      · rw [hc] at hB
        (with_reducible rename News _ _ _ _ => N4)
        refine' tail_K (its := vs'.toArray) (n := nn + 1) (x := .int 2 tB) ?g24N ?g24m ?g24a ?g24b ?g24c ?_
        (case g24N => exact N4)
        (case g24m => k_mem)
        (case g24a => omega)
        (case g24b => omega)
        (case g24c => rw [jx]; simpa using hB)
        (repeat' (first | (k_unfold; (try dsimp only)) | row_room_at HE | (k_end; wrow_close) | ((with_reducible show wpAny _ _ (pyIter (Value.ref _)) _ _ _); (k_here; (with_reducible show wpAny _ _ (pyIter _) (fun _ _ => ForAt _ _ _ _ _ _ _ _ _ _ _) _ _); refine halt ?_)) | ((with_reducible show wpAny _ _ (exec (Stmt.For _ _ _ _ _) _) _ _ _); k_here; refine halt ?_) | ((with_reducible show wpAny _ _ (call (Value.builtin "list.append") _ _) _ _ _); (k_here; (with_reducible show wpAny _ _ (call (Value.builtin _) [Value.ref _, _]) _ _ _); k_dflt (refine' append_K (by k_asm) (by k_asm) (by k_upd) ?_ (by (refine size_small ?_; (try simp only [List.size_toArray]); omega)); k_whole); intro h'z2 F'z2 N'z2; (try k_sweep))) | ((with_reducible show wpAny _ _ (getItem (Value.ref _) (Value.int _ _)) _ _ _); k_here; refine halt ?_) | ((with_reducible show wpAny _ _ (subscriptTail _ _ (Value.ref _) (Value.int _ _)) _ _ _); k_here; refine halt ?_) | row_room_at HB | (dsimp only; (first | ((with_reducible show wpAny _ _ (pyIter (Value.ref _)) _ _ _); (k_here; (with_reducible show wpAny _ _ (pyIter _) (fun _ _ => ForAt _ _ _ _ _ _ _ _ _ _ _) _ _); refine halt ?_)) | ((with_reducible show wpAny _ _ (exec (Stmt.For _ _ _ _ _) _) _ _ _); k_here; refine halt ?_) | ((with_reducible show wpAny _ _ (call (Value.builtin "list.append") _ _) _ _ _); (k_here; (with_reducible show wpAny _ _ (call (Value.builtin _) [Value.ref _, _]) _ _ _); k_dflt (refine' append_K (by k_asm) (by k_asm) (by k_upd) ?_ (by (refine size_small ?_; (try simp only [List.size_toArray]); omega)); k_whole); intro h'z2 F'z2 N'z2; (try k_sweep))) | ((with_reducible show wpAny _ _ (getItem (Value.ref _) (Value.int _ _)) _ _ _); k_here; refine halt ?_) | ((with_reducible show wpAny _ _ (subscriptTail _ _ (Value.ref _) (Value.int _ _)) _ _ _); k_here; refine halt ?_) | walk1 | row_room_at HE)) | (leave1; walk_say "STEP leave1"; try dsimp only)))
        refine go ?_
        (with_reducible rename News _ _ _ _ => N5)
        refine' tail_K (its := vs'.toArray) (n := nn + 1) (x := .int 2 tB) ?g25N ?g25m ?g25a ?g25b ?g25c ?_
        (case g25N => exact N5)
        (case g25m => k_mem)
        (case g25a => omega)
        (case g25b => omega)
        (case g25c => rw [jx]; simpa using hB)
        (repeat' (first | (k_unfold; (try dsimp only)) | row_room_at HE | (k_end; wrow_close) | ((with_reducible show wpAny _ _ (pyIter (Value.ref _)) _ _ _); (k_here; (with_reducible show wpAny _ _ (pyIter _) (fun _ _ => ForAt _ _ _ _ _ _ _ _ _ _ _) _ _); refine halt ?_)) | ((with_reducible show wpAny _ _ (exec (Stmt.For _ _ _ _ _) _) _ _ _); k_here; refine halt ?_) | ((with_reducible show wpAny _ _ (call (Value.builtin "list.append") _ _) _ _ _); (k_here; (with_reducible show wpAny _ _ (call (Value.builtin _) [Value.ref _, _]) _ _ _); k_dflt (refine' append_K (by k_asm) (by k_asm) (by k_upd) ?_ (by (refine size_small ?_; (try simp only [List.size_toArray]); omega)); k_whole); intro h'z2 F'z2 N'z2; (try k_sweep))) | ((with_reducible show wpAny _ _ (getItem (Value.ref _) (Value.int _ _)) _ _ _); k_here; refine halt ?_) | ((with_reducible show wpAny _ _ (subscriptTail _ _ (Value.ref _) (Value.int _ _)) _ _ _); k_here; refine halt ?_) | row_room_at HB | (dsimp only; (first | ((with_reducible show wpAny _ _ (pyIter (Value.ref _)) _ _ _); (k_here; (with_reducible show wpAny _ _ (pyIter _) (fun _ _ => ForAt _ _ _ _ _ _ _ _ _ _ _) _ _); refine halt ?_)) | ((with_reducible show wpAny _ _ (exec (Stmt.For _ _ _ _ _) _) _ _ _); k_here; refine halt ?_) | ((with_reducible show wpAny _ _ (call (Value.builtin "list.append") _ _) _ _ _); (k_here; (with_reducible show wpAny _ _ (call (Value.builtin _) [Value.ref _, _]) _ _ _); k_dflt (refine' append_K (by k_asm) (by k_asm) (by k_upd) ?_ (by (refine size_small ?_; (try simp only [List.size_toArray]); omega)); k_whole); intro h'z2 F'z2 N'z2; (try k_sweep))) | ((with_reducible show wpAny _ _ (getItem (Value.ref _) (Value.int _ _)) _ _ _); k_here; refine halt ?_) | ((with_reducible show wpAny _ _ (subscriptTail _ _ (Value.ref _) (Value.int _ _)) _ _ _); k_here; refine halt ?_) | walk1 | row_room_at HE)) | (leave1; walk_say "STEP leave1"; try dsimp only)))
        refine go ?_
        (with_reducible rename News _ _ _ _ => N6)
        refine' tail_K (its := [Value.ref a0, Value.ref a1, Value.ref a2, Value.ref a3].toArray) (n := nD) (x := .ref a2) ?g26N ?g26m ?g26a ?g26b ?g26c ?_
        (case g26N => exact N6)
        (case g26m => k_mem)
        (case g26a => decide)
        (case g26b => decide)
        (case g26c => rfl)
        (repeat' (first | (k_unfold; (try dsimp only)) | row_room_at HE | (k_end; wrow_close) | ((with_reducible show wpAny _ _ (pyIter (Value.ref _)) _ _ _); (k_here; (with_reducible show wpAny _ _ (pyIter _) (fun _ _ => ForAt _ _ _ _ _ _ _ _ _ _ _) _ _); refine halt ?_)) | ((with_reducible show wpAny _ _ (exec (Stmt.For _ _ _ _ _) _) _ _ _); k_here; refine halt ?_) | ((with_reducible show wpAny _ _ (call (Value.builtin "list.append") _ _) _ _ _); (k_here; (with_reducible show wpAny _ _ (call (Value.builtin _) [Value.ref _, _]) _ _ _); k_dflt (refine' append_K (by k_asm) (by k_asm) (by k_upd) ?_ (by (refine size_small ?_; (try simp only [List.size_toArray]); omega)); k_whole); intro h'z2 F'z2 N'z2; (try k_sweep))) | ((with_reducible show wpAny _ _ (getItem (Value.ref _) (Value.int _ _)) _ _ _); k_here; refine halt ?_) | ((with_reducible show wpAny _ _ (subscriptTail _ _ (Value.ref _) (Value.int _ _)) _ _ _); k_here; refine halt ?_) | row_room_at HB | (dsimp only; (first | ((with_reducible show wpAny _ _ (pyIter (Value.ref _)) _ _ _); (k_here; (with_reducible show wpAny _ _ (pyIter _) (fun _ _ => ForAt _ _ _ _ _ _ _ _ _ _ _) _ _); refine halt ?_)) | ((with_reducible show wpAny _ _ (exec (Stmt.For _ _ _ _ _) _) _ _ _); k_here; refine halt ?_) | ((with_reducible show wpAny _ _ (call (Value.builtin "list.append") _ _) _ _ _); (k_here; (with_reducible show wpAny _ _ (call (Value.builtin _) [Value.ref _, _]) _ _ _); k_dflt (refine' append_K (by k_asm) (by k_asm) (by k_upd) ?_ (by (refine size_small ?_; (try simp only [List.size_toArray]); omega)); k_whole); intro h'z2 F'z2 N'z2; (try k_sweep))) | ((with_reducible show wpAny _ _ (getItem (Value.ref _) (Value.int _ _)) _ _ _); k_here; refine halt ?_) | ((with_reducible show wpAny _ _ (subscriptTail _ _ (Value.ref _) (Value.int _ _)) _ _ _); k_here; refine halt ?_) | walk1 | row_room_at HE)) | (leave1; walk_say "STEP leave1"; try dsimp only)))
        (with_reducible rename Fr _ _ _ _ => F7)
        (with_reducible rename News _ _ _ _ => N7)
        rw [List.push_toArray] at N7
        refine fEnd F7 N7 (fun _ hp => hp) ?_ ⟨by omega, vs', v0, v1, _, v3, _, _, _, _, _, _, ⟨rfl, rfl, trivial⟩, cs', ?_, ?_, ?_, ?_, rfl⟩
        · intro q hq
          revert hq
          revert q
          refine' all_cons ?_ (all_cons ?_ (all_cons ?_ (all_cons ?_ (all_cons ?_ (all_cons ?_ (all_nil))))))
          · exact o1
          · exact o2
          · exact o3
          · exact o4
          · exact o5
          · exact o6
        · rw [levelF_succ, hc]; rw [if_neg (by decide)]; exact s0
        · rw [levelF_succ, hc]; rw [if_neg (by decide)]; exact s1
        · rw [levelF_succ, hc]; rw [if_pos rfl, show ((i + 1 : Nat) : Int) = 1 + (i : Int) by omega]; exact ints_snoc s2 _ _
        · rw [levelF_succ, hc]; rw [if_neg (by decide)]; exact s3
      · rw [hc] at hB
        (with_reducible rename News _ _ _ _ => N4)
        refine' tail_K (its := vs'.toArray) (n := nn + 1) (x := .int 3 tB) ?g34N ?g34m ?g34a ?g34b ?g34c ?_
        (case g34N => exact N4)
        (case g34m => k_mem)
        (case g34a => omega)
        (case g34b => omega)
        (case g34c => rw [jx]; simpa using hB)
        (repeat' (first | (k_unfold; (try dsimp only)) | row_room_at HE | (k_end; wrow_close) | ((with_reducible show wpAny _ _ (pyIter (Value.ref _)) _ _ _); (k_here; (with_reducible show wpAny _ _ (pyIter _) (fun _ _ => ForAt _ _ _ _ _ _ _ _ _ _ _) _ _); refine halt ?_)) | ((with_reducible show wpAny _ _ (exec (Stmt.For _ _ _ _ _) _) _ _ _); k_here; refine halt ?_) | ((with_reducible show wpAny _ _ (call (Value.builtin "list.append") _ _) _ _ _); (k_here; (with_reducible show wpAny _ _ (call (Value.builtin _) [Value.ref _, _]) _ _ _); k_dflt (refine' append_K (by k_asm) (by k_asm) (by k_upd) ?_ (by (refine size_small ?_; (try simp only [List.size_toArray]); omega)); k_whole); intro h'z2 F'z2 N'z2; (try k_sweep))) | ((with_reducible show wpAny _ _ (getItem (Value.ref _) (Value.int _ _)) _ _ _); k_here; refine halt ?_) | ((with_reducible show wpAny _ _ (subscriptTail _ _ (Value.ref _) (Value.int _ _)) _ _ _); k_here; refine halt ?_) | row_room_at HB | (dsimp only; (first | ((with_reducible show wpAny _ _ (pyIter (Value.ref _)) _ _ _); (k_here; (with_reducible show wpAny _ _ (pyIter _) (fun _ _ => ForAt _ _ _ _ _ _ _ _ _ _ _) _ _); refine halt ?_)) | ((with_reducible show wpAny _ _ (exec (Stmt.For _ _ _ _ _) _) _ _ _); k_here; refine halt ?_) | ((with_reducible show wpAny _ _ (call (Value.builtin "list.append") _ _) _ _ _); (k_here; (with_reducible show wpAny _ _ (call (Value.builtin _) [Value.ref _, _]) _ _ _); k_dflt (refine' append_K (by k_asm) (by k_asm) (by k_upd) ?_ (by (refine size_small ?_; (try simp only [List.size_toArray]); omega)); k_whole); intro h'z2 F'z2 N'z2; (try k_sweep))) | ((with_reducible show wpAny _ _ (getItem (Value.ref _) (Value.int _ _)) _ _ _); k_here; refine halt ?_) | ((with_reducible show wpAny _ _ (subscriptTail _ _ (Value.ref _) (Value.int _ _)) _ _ _); k_here; refine halt ?_) | walk1 | row_room_at HE)) | (leave1; walk_say "STEP leave1"; try dsimp only)))
        refine go ?_
        (with_reducible rename News _ _ _ _ => N5)
        refine' tail_K (its := vs'.toArray) (n := nn + 1) (x := .int 3 tB) ?g35N ?g35m ?g35a ?g35b ?g35c ?_
        (case g35N => exact N5)
        (case g35m => k_mem)
        (case g35a => omega)
        (case g35b => omega)
        (case g35c => rw [jx]; simpa using hB)
        (repeat' (first | (k_unfold; (try dsimp only)) | row_room_at HE | (k_end; wrow_close) | ((with_reducible show wpAny _ _ (pyIter (Value.ref _)) _ _ _); (k_here; (with_reducible show wpAny _ _ (pyIter _) (fun _ _ => ForAt _ _ _ _ _ _ _ _ _ _ _) _ _); refine halt ?_)) | ((with_reducible show wpAny _ _ (exec (Stmt.For _ _ _ _ _) _) _ _ _); k_here; refine halt ?_) | ((with_reducible show wpAny _ _ (call (Value.builtin "list.append") _ _) _ _ _); (k_here; (with_reducible show wpAny _ _ (call (Value.builtin _) [Value.ref _, _]) _ _ _); k_dflt (refine' append_K (by k_asm) (by k_asm) (by k_upd) ?_ (by (refine size_small ?_; (try simp only [List.size_toArray]); omega)); k_whole); intro h'z2 F'z2 N'z2; (try k_sweep))) | ((with_reducible show wpAny _ _ (getItem (Value.ref _) (Value.int _ _)) _ _ _); k_here; refine halt ?_) | ((with_reducible show wpAny _ _ (subscriptTail _ _ (Value.ref _) (Value.int _ _)) _ _ _); k_here; refine halt ?_) | row_room_at HB | (dsimp only; (first | ((with_reducible show wpAny _ _ (pyIter (Value.ref _)) _ _ _); (k_here; (with_reducible show wpAny _ _ (pyIter _) (fun _ _ => ForAt _ _ _ _ _ _ _ _ _ _ _) _ _); refine halt ?_)) | ((with_reducible show wpAny _ _ (exec (Stmt.For _ _ _ _ _) _) _ _ _); k_here; refine halt ?_) | ((with_reducible show wpAny _ _ (call (Value.builtin "list.append") _ _) _ _ _); (k_here; (with_reducible show wpAny _ _ (call (Value.builtin _) [Value.ref _, _]) _ _ _); k_dflt (refine' append_K (by k_asm) (by k_asm) (by k_upd) ?_ (by (refine size_small ?_; (try simp only [List.size_toArray]); omega)); k_whole); intro h'z2 F'z2 N'z2; (try k_sweep))) | ((with_reducible show wpAny _ _ (getItem (Value.ref _) (Value.int _ _)) _ _ _); k_here; refine halt ?_) | ((with_reducible show wpAny _ _ (subscriptTail _ _ (Value.ref _) (Value.int _ _)) _ _ _); k_here; refine halt ?_) | walk1 | row_room_at HE)) | (leave1; walk_say "STEP leave1"; try dsimp only)))
        refine go ?_
        (with_reducible rename News _ _ _ _ => N6)
        refine' tail_K (its := [Value.ref a0, Value.ref a1, Value.ref a2, Value.ref a3].toArray) (n := nD) (x := .ref a3) ?g36N ?g36m ?g36a ?g36b ?g36c ?_
        (case g36N => exact N6)
        (case g36m => k_mem)
        (case g36a => decide)
        (case g36b => decide)
        (case g36c => rfl)
        (repeat' (first | (k_unfold; (try dsimp only)) | row_room_at HE | (k_end; wrow_close) | ((with_reducible show wpAny _ _ (pyIter (Value.ref _)) _ _ _); (k_here; (with_reducible show wpAny _ _ (pyIter _) (fun _ _ => ForAt _ _ _ _ _ _ _ _ _ _ _) _ _); refine halt ?_)) | ((with_reducible show wpAny _ _ (exec (Stmt.For _ _ _ _ _) _) _ _ _); k_here; refine halt ?_) | ((with_reducible show wpAny _ _ (call (Value.builtin "list.append") _ _) _ _ _); (k_here; (with_reducible show wpAny _ _ (call (Value.builtin _) [Value.ref _, _]) _ _ _); k_dflt (refine' append_K (by k_asm) (by k_asm) (by k_upd) ?_ (by (refine size_small ?_; (try simp only [List.size_toArray]); omega)); k_whole); intro h'z2 F'z2 N'z2; (try k_sweep))) | ((with_reducible show wpAny _ _ (getItem (Value.ref _) (Value.int _ _)) _ _ _); k_here; refine halt ?_) | ((with_reducible show wpAny _ _ (subscriptTail _ _ (Value.ref _) (Value.int _ _)) _ _ _); k_here; refine halt ?_) | row_room_at HB | (dsimp only; (first | ((with_reducible show wpAny _ _ (pyIter (Value.ref _)) _ _ _); (k_here; (with_reducible show wpAny _ _ (pyIter _) (fun _ _ => ForAt _ _ _ _ _ _ _ _ _ _ _) _ _); refine halt ?_)) | ((with_reducible show wpAny _ _ (exec (Stmt.For _ _ _ _ _) _) _ _ _); k_here; refine halt ?_) | ((with_reducible show wpAny _ _ (call (Value.builtin "list.append") _ _) _ _ _); (k_here; (with_reducible show wpAny _ _ (call (Value.builtin _) [Value.ref _, _]) _ _ _); k_dflt (refine' append_K (by k_asm) (by k_asm) (by k_upd) ?_ (by (refine size_small ?_; (try simp only [List.size_toArray]); omega)); k_whole); intro h'z2 F'z2 N'z2; (try k_sweep))) | ((with_reducible show wpAny _ _ (getItem (Value.ref _) (Value.int _ _)) _ _ _); k_here; refine halt ?_) | ((with_reducible show wpAny _ _ (subscriptTail _ _ (Value.ref _) (Value.int _ _)) _ _ _); k_here; refine halt ?_) | walk1 | row_room_at HE)) | (leave1; walk_say "STEP leave1"; try dsimp only)))
        (with_reducible rename Fr _ _ _ _ => F7)
        (with_reducible rename News _ _ _ _ => N7)
        rw [List.push_toArray] at N7
        refine fEnd F7 N7 (fun _ hp => hp) ?_ ⟨by omega, vs', v0, v1, v2, _, _, _, _, _, _, _, ⟨rfl, rfl, trivial⟩, cs', ?_, ?_, ?_, ?_, rfl⟩
        · intro q hq
          revert hq
          revert q
          refine' all_cons ?_ (all_cons ?_ (all_cons ?_ (all_cons ?_ (all_cons ?_ (all_cons ?_ (all_nil))))))
          · exact o1
          · exact o2
          · exact o3
          · exact o4
          · exact o5
          · exact o6
        · rw [levelF_succ, hc]; rw [if_neg (by decide)]; exact s0
        · rw [levelF_succ, hc]; rw [if_neg (by decide)]; exact s1
        · rw [levelF_succ, hc]; rw [if_neg (by decide)]; exact s2
        · rw [levelF_succ, hc]; rw [if_pos rfl, show ((i + 1 : Nat) : Int) = 1 + (i : Int) by omega]; exact ints_snoc s3 _ _
      · rw [hc] at hB
        (with_reducible rename News _ _ _ _ => N4)
        refine' tail_K (its := vs'.toArray) (n := nn + 1) (x := .int 4 tB) ?g44N ?g44m ?g44a ?g44b ?g44c ?_
        (case g44N => exact N4)
        (case g44m => k_mem)
        (case g44a => omega)
        (case g44b => omega)
        (case g44c => rw [jx]; simpa using hB)
        (repeat' (first | (k_unfold; (try dsimp only)) | row_room_at HE | (k_end; wrow_close) | ((with_reducible show wpAny _ _ (pyIter (Value.ref _)) _ _ _); (k_here; (with_reducible show wpAny _ _ (pyIter _) (fun _ _ => ForAt _ _ _ _ _ _ _ _ _ _ _) _ _); refine halt ?_)) | ((with_reducible show wpAny _ _ (exec (Stmt.For _ _ _ _ _) _) _ _ _); k_here; refine halt ?_) | ((with_reducible show wpAny _ _ (call (Value.builtin "list.append") _ _) _ _ _); (k_here; (with_reducible show wpAny _ _ (call (Value.builtin _) [Value.ref _, _]) _ _ _); k_dflt (refine' append_K (by k_asm) (by k_asm) (by k_upd) ?_ (by (refine size_small ?_; (try simp only [List.size_toArray]); omega)); k_whole); intro h'z2 F'z2 N'z2; (try k_sweep))) | ((with_reducible show wpAny _ _ (getItem (Value.ref _) (Value.int _ _)) _ _ _); k_here; refine halt ?_) | ((with_reducible show wpAny _ _ (subscriptTail _ _ (Value.ref _) (Value.int _ _)) _ _ _); k_here; refine halt ?_) | row_room_at HB | (dsimp only; (first | ((with_reducible show wpAny _ _ (pyIter (Value.ref _)) _ _ _); (k_here; (with_reducible show wpAny _ _ (pyIter _) (fun _ _ => ForAt _ _ _ _ _ _ _ _ _ _ _) _ _); refine halt ?_)) | ((with_reducible show wpAny _ _ (exec (Stmt.For _ _ _ _ _) _) _ _ _); k_here; refine halt ?_) | ((with_reducible show wpAny _ _ (call (Value.builtin "list.append") _ _) _ _ _); (k_here; (with_reducible show wpAny _ _ (call (Value.builtin _) [Value.ref _, _]) _ _ _); k_dflt (refine' append_K (by k_asm) (by k_asm) (by k_upd) ?_ (by (refine size_small ?_; (try simp only [List.size_toArray]); omega)); k_whole); intro h'z2 F'z2 N'z2; (try k_sweep))) | ((with_reducible show wpAny _ _ (getItem (Value.ref _) (Value.int _ _)) _ _ _); k_here; refine halt ?_) | ((with_reducible show wpAny _ _ (subscriptTail _ _ (Value.ref _) (Value.int _ _)) _ _ _); k_here; refine halt ?_) | walk1 | row_room_at HE)) | (leave1; walk_say "STEP leave1"; try dsimp only)))
        (with_reducible rename Fr _ _ _ _ => F7)
        (with_reducible rename News _ _ _ _ => N7)
        refine fEnd F7 N7 (fun _ hp => hp) ?_ ⟨by omega, vs', v0, v1, v2, v3, _, _, _, _, _, _, ⟨rfl, rfl, trivial⟩, cs', ?_, ?_, ?_, ?_, rfl⟩
        · intro q hq
          revert hq
          revert q
          refine' all_cons ?_ (all_cons ?_ (all_cons ?_ (all_cons ?_ (all_cons ?_ (all_cons ?_ (all_nil))))))
          · exact o1
          · exact o2
          · exact o3
          · exact o4
          · exact o5
          · exact o6
        · rw [levelF_succ, hc]; rw [if_neg (by decide)]; exact s0
        · rw [levelF_succ, hc]; rw [if_neg (by decide)]; exact s1
        · rw [levelF_succ, hc]; rw [if_neg (by decide)]; exact s2
        · rw [levelF_succ, hc]; rw [if_neg (by decide)]; exact s3
      · rw [hc] at hB
        (with_reducible rename News _ _ _ _ => N4)
        refine' tail_K (its := vs'.toArray) (n := nn + 1) (x := .int 5 tB) ?g54N ?g54m ?g54a ?g54b ?g54c ?_
        (case g54N => exact N4)
        (case g54m => k_mem)
        (case g54a => omega)
        (case g54b => omega)
        (case g54c => rw [jx]; simpa using hB)
        (repeat' (first | (k_unfold; (try dsimp only)) | row_room_at HE | (k_end; wrow_close) | ((with_reducible show wpAny _ _ (pyIter (Value.ref _)) _ _ _); (k_here; (with_reducible show wpAny _ _ (pyIter _) (fun _ _ => ForAt _ _ _ _ _ _ _ _ _ _ _) _ _); refine halt ?_)) | ((with_reducible show wpAny _ _ (exec (Stmt.For _ _ _ _ _) _) _ _ _); k_here; refine halt ?_) | ((with_reducible show wpAny _ _ (call (Value.builtin "list.append") _ _) _ _ _); (k_here; (with_reducible show wpAny _ _ (call (Value.builtin _) [Value.ref _, _]) _ _ _); k_dflt (refine' append_K (by k_asm) (by k_asm) (by k_upd) ?_ (by (refine size_small ?_; (try simp only [List.size_toArray]); omega)); k_whole); intro h'z2 F'z2 N'z2; (try k_sweep))) | ((with_reducible show wpAny _ _ (getItem (Value.ref _) (Value.int _ _)) _ _ _); k_here; refine halt ?_) | ((with_reducible show wpAny _ _ (subscriptTail _ _ (Value.ref _) (Value.int _ _)) _ _ _); k_here; refine halt ?_) | row_room_at HB | (dsimp only; (first | ((with_reducible show wpAny _ _ (pyIter (Value.ref _)) _ _ _); (k_here; (with_reducible show wpAny _ _ (pyIter _) (fun _ _ => ForAt _ _ _ _ _ _ _ _ _ _ _) _ _); refine halt ?_)) | ((with_reducible show wpAny _ _ (exec (Stmt.For _ _ _ _ _) _) _ _ _); k_here; refine halt ?_) | ((with_reducible show wpAny _ _ (call (Value.builtin "list.append") _ _) _ _ _); (k_here; (with_reducible show wpAny _ _ (call (Value.builtin _) [Value.ref _, _]) _ _ _); k_dflt (refine' append_K (by k_asm) (by k_asm) (by k_upd) ?_ (by (refine size_small ?_; (try simp only [List.size_toArray]); omega)); k_whole); intro h'z2 F'z2 N'z2; (try k_sweep))) | ((with_reducible show wpAny _ _ (getItem (Value.ref _) (Value.int _ _)) _ _ _); k_here; refine halt ?_) | ((with_reducible show wpAny _ _ (subscriptTail _ _ (Value.ref _) (Value.int _ _)) _ _ _); k_here; refine halt ?_) | walk1 | row_room_at HE)) | (leave1; walk_say "STEP leave1"; try dsimp only)))
        (with_reducible rename Fr _ _ _ _ => F7)
        (with_reducible rename News _ _ _ _ => N7)
        refine fEnd F7 N7 (fun _ hp => hp) ?_ ⟨by omega, vs', v0, v1, v2, v3, _, _, _, _, _, _, ⟨rfl, rfl, trivial⟩, cs', ?_, ?_, ?_, ?_, rfl⟩
        · intro q hq
          revert hq
          revert q
          refine' all_cons ?_ (all_cons ?_ (all_cons ?_ (all_cons ?_ (all_cons ?_ (all_cons ?_ (all_nil))))))
          · exact o1
          · exact o2
          · exact o3
          · exact o4
          · exact o5
          · exact o6
        · rw [levelF_succ, hc]; rw [if_neg (by decide)]; exact s0
        · rw [levelF_succ, hc]; rw [if_neg (by decide)]; exact s1
        · rw [levelF_succ, hc]; rw [if_neg (by decide)]; exact s2
        · rw [levelF_succ, hc]; rw [if_neg (by decide)]; exact s3
    · intro m news h tk jz4
      (refine hideP ?_; intro PP hPP); (obtain ⟨hi31, vs, v0, v1, v2, v3, nn, n0, n1, n2, n3, nD, e1, cs, s0, s1, s2, s3, rfl⟩ := jz4) <;> (refine hPP ?_; clear hPP; clear PP)
      intro F N
      replace F := fr_knows e1 F
      clear e1
      (try dsimp only)
      (repeat' (first | (k_unfold; (try dsimp only)) | row_room_at HE | (k_end; wrow_close) | ((with_reducible show wpAny _ _ (pyIter (Value.ref _)) _ _ _); (k_here; (with_reducible show wpAny _ _ (pyIter _) (fun _ _ => ForAt _ _ _ _ _ _ _ _ _ _ _) _ _); refine halt ?_)) | ((with_reducible show wpAny _ _ (exec (Stmt.For _ _ _ _ _) _) _ _ _); k_here; refine halt ?_) | ((with_reducible show wpAny _ _ (call (Value.builtin "list.append") _ _) _ _ _); (k_here; (with_reducible show wpAny _ _ (call (Value.builtin _) [Value.ref _, _]) _ _ _); k_dflt (refine' append_K (by k_asm) (by k_asm) (by k_upd) ?_ (by (refine size_small ?_; (try simp only [List.size_toArray]); omega)); k_whole); intro h'z2 F'z2 N'z2; (try k_sweep))) | ((with_reducible show wpAny _ _ (getItem (Value.ref _) (Value.int _ _)) _ _ _); k_here; refine halt ?_) | ((with_reducible show wpAny _ _ (subscriptTail _ _ (Value.ref _) (Value.int _ _)) _ _ _); k_here; refine halt ?_) | row_room_at HB | (dsimp only; (first | ((with_reducible show wpAny _ _ (pyIter (Value.ref _)) _ _ _); (k_here; (with_reducible show wpAny _ _ (pyIter _) (fun _ _ => ForAt _ _ _ _ _ _ _ _ _ _ _) _ _); refine halt ?_)) | ((with_reducible show wpAny _ _ (exec (Stmt.For _ _ _ _ _) _) _ _ _); k_here; refine halt ?_) | ((with_reducible show wpAny _ _ (call (Value.builtin "list.append") _ _) _ _ _); (k_here; (with_reducible show wpAny _ _ (call (Value.builtin _) [Value.ref _, _]) _ _ _); k_dflt (refine' append_K (by k_asm) (by k_asm) (by k_upd) ?_ (by (refine size_small ?_; (try simp only [List.size_toArray]); omega)); k_whole); intro h'z2 F'z2 N'z2; (try k_sweep))) | ((with_reducible show wpAny _ _ (getItem (Value.ref _) (Value.int _ _)) _ _ _); k_here; refine halt ?_) | ((with_reducible show wpAny _ _ (subscriptTail _ _ (Value.ref _) (Value.int _ _)) _ _ _); k_here; refine halt ?_) | walk1 | row_room_at HE)) | (leave1; walk_say "STEP leave1"; try dsimp only)))
      (try dsimp only)
      (repeat (first | (k_unfold; (try dsimp only)) | row_room_at HE | dsimp only))
      (try dsimp only)
      refine ret _ _ D a0 a1 a2 a3 nD n0 n1 n2 n3 v0 v1 v2 v3 s0 s1 s2 s3 ⟨q2.1, q3.1, q4.1, q5.1⟩ (kp' _ F.keep) ?_
      intro q hq
      have hm : q ∈ [(D, listOf [Value.ref a0, Value.ref a1, Value.ref a2, Value.ref a3].toArray nD), (a3, listOf v3.toArray n3), (a2, listOf v2.toArray n2), (a1, listOf v1.toArray n1), (a0, listOf v0.toArray n0), (C, listOf vs.toArray nn)] := by
        revert hq
        revert q
        exact all_cons (by (first | k_mem | exact Or.inl (by k_mem) | exact Or.inr (by (repeat (first | exact List.Mem.head _ | apply List.Mem.tail))))) (all_cons (by (first | k_mem | exact Or.inl (by k_mem) | exact Or.inr (by (repeat (first | exact List.Mem.head _ | apply List.Mem.tail))))) (all_cons (by (first | k_mem | exact Or.inl (by k_mem) | exact Or.inr (by (repeat (first | exact List.Mem.head _ | apply List.Mem.tail))))) (all_cons (by (first | k_mem | exact Or.inl (by k_mem) | exact Or.inr (by (repeat (first | exact List.Mem.head _ | apply List.Mem.tail))))) (all_cons (by (first | k_mem | exact Or.inl (by k_mem) | exact Or.inr (by (repeat (first | exact List.Mem.head _ | apply List.Mem.tail))))) (all_nil)))))
      exact ⟨(N q hm).1, fr' q.1 (fun _ h => nomatch h) (N q hm).2.2⟩
end

/-! T_ci -/
theorem flushT_ci : True ∧ True := by first | (row_walk; done) | (walk1; done) | exact ⟨trivial, trivial⟩
theorem slot_ci_next : Slot "callable_iterator" "__next__" "callable_iterator.__next__" :=
  .of (owner := "callable_iterator") (n := "__next__") (by rw [typeLookup_type, builtinLookup_eq_fast]; kernel_rfl) (by decide +kernel) (by decide +kernel) (by decide +kernel)
    (by first | exact .inl (by decide +kernel) | exact .inr (by decide +kernel)) (by rw [isSubtype_type]; kernel_rfl)
theorem slot_ci_iter : Slot "callable_iterator" "__iter__" "callable_iterator.__iter__" :=
  .of (owner := "callable_iterator") (n := "__iter__") (by rw [typeLookup_type, builtinLookup_eq_fast]; kernel_rfl) (by decide +kernel) (by decide +kernel) (by decide +kernel)
    (by first | exact .inl (by decide +kernel) | exact .inr (by decide +kernel)) (by rw [isSubtype_type]; kernel_rfl)
theorem entry_ci_next : entryFor table "callable_iterator.__next__" = some Builtin.«callable_iterator.__next__» := entryFor_of_tree (by kernel_rfl)
theorem entry_ci_iter : entryFor table "callable_iterator.__iter__" = some Builtin.«dict_keyiterator.__iter__» :=
  entryFor_alias (id' := "dict_keyiterator.__iter__") (by kernel_rfl) rfl (by decide +kernel) (by kernel_rfl)
theorem args_ci_next (a : Value) : argsOk "callable_iterator.__next__" ⟨[a], []⟩ := by unfold argsOk; kernel_rfl
theorem args_ci_iter (a : Value) : argsOk "callable_iterator.__iter__" ⟨[a], []⟩ := by unfold argsOk; kernel_rfl
noncomputable abbrev ciObj (bm : Addr) (t : Tok) : Obj := { cls := .type "callable_iterator", data := .fields #[.ref bm, .str (Str.ofString "") t, .bool false] }
section
variable {prog : Program} {w : World} {A : Around} {E : Value → Shared → Prop} {s : Shared}
theorem iter_ci {it bm : Addr} {t : Tok} {Q : Value → Shared → Prop} (ho : s.heap.get? it = some (ciObj bm t)) (h : Q (.ref it) s) : wpAny (model prog w) A (pyIter (.ref it)) Q E s := by
  have hT : s.TypeIs (.ref it) "callable_iterator" := ⟨_, ho, rfl⟩
  refine wpAny_pyIter_slot hT slot_ci_iter (wpAny_call_entry slot_ci_iter hT entry_ci_iter ?_ (args_ci_iter _))
  show wpAny _ _ (ret (.ref it)) _ _ s
  exact wpAny_pure ⟨_, rfl, "callable_iterator", _, hT, slot_ci_next.lookup, h⟩
theorem wpAny_callBorrowed {f : Value} {pos : List Value} {Q : Value → Shared → Prop}
    (hc : codeAny (model prog w) A (.call f ⟨pos, []⟩) (fun r s' => match r with | .ok (.ret v) => Q v s' | .ok _ => False | .error e => E e s') s) : wpAny (model prog w) A (callBorrowed f pos) Q E s :=
  fun Γ p hΓ => by
    unfold callBorrowed
    rw [Sem.wp_call]
    have := hc _ p rfl (hΓ.enter (.call f ⟨pos, []⟩) none p (by intro x; cases x))
    refine Eq.mp ?_ this
    congr 1
    funext r s'
    cases r with
    | error e => rfl
    | ok f => cases f <;> rfl
theorem borrows_meth {bm f self : Addr} {fo : Obj} {fd : FuncData} {Q : Bool → Shared → Prop} (hb : s.heap.get? bm = some (methodObj (.ref f) (.ref self))) (hf : s.heap.get? f = some fo) (hfd : fo.data = .func fd) (h : Q true s) :
    wpAny (model prog w) A (borrowsExactly (.ref bm)) Q E s := by
  unfold borrowsExactly
  show wpAny _ _ (load bm >>= _) _ _ s
  refine wpAny_bind (wpAny_load hb ?_)
  (try dsimp only)
  show wpAny _ _ (load f >>= _) _ _ s
  refine wpAny_bind (wpAny_load hf ?_)
  rw [hfd]
  exact wpAny_pure h
/-- one step of iter(self.method, ''): the method is called, '' ends it -/
theorem next_ci {it bm : Addr} {f self : Addr} {t : Tok} {fo : Obj} {fd : FuncData} {Q : Option Value → Shared → Prop} (hh : A.handled = none)
    (ho : s.heap.get? it = some (ciObj bm t)) (hb : s.heap.get? bm = some (methodObj (.ref f) (.ref self))) (hf : s.heap.get? f = some fo) (hfd : fo.data = .func fd)
    (h : codeAny (model prog w) A.in1 (.call (.ref f) ⟨[.ref self], []⟩) (fun r s' => match r with
      | .ok (.ret v) => ∃ y t', v = .str y t' ∧ s'.heap.get? it = some (ciObj bm t) ∧ s'.heap.get? bm = some (methodObj (.ref f) (.ref self)) ∧ s'.heap.get? f = some fo ∧
          (if y = Str.ofString "" then ∀ h', Heap.ExtBut it s'.heap h' → Q none { s' with heap := h' } else Q (some v) s')
      | _ => False) s) : wpAny (model prog w) A (pyNext (.ref it)) Q E s := by
  have hT : s.TypeIs (.ref it) "callable_iterator" := ⟨_, ho, rfl⟩
  unfold pyNext
  refine wpAny_bind (wpAny_attempt (wpAny_callSpecial?_slot (name := Str.ofString "__next__") hT slot_ci_next
    (wpAny_call_entry slot_ci_next hT entry_ci_next ?_ (args_ci_next _))))
  show wpAny _ _ (field (.ref it) 2 >>= _) _ _ s
  refine wpAny_bind (wpAny_field ho rfl (x := .bool false) rfl ?_)
  show wpAny _ _ (if (Value.bool false == Value.bool true) = true then _ else _) _ _ s
  rw [if_neg (show ¬ ((Value.bool false == Value.bool true) = true) from Bool.false_ne_true)]
  show wpAny _ _ (field (.ref it) 0 >>= _) _ _ s
  refine wpAny_bind (wpAny_field ho rfl (x := .ref bm) rfl ?_)
  refine wpAny_bind (wpAny_attempt ?_)
  unfold callOutOfASlot
  refine wpAny_bind (borrows_meth hb hf hfd ?_)
  rw [if_pos rfl]
  refine wpAny_callBorrowed (method_call hb ?_)
  refine codeAny_mono h fun r s' hr => ?_
  cases r with
  | error e => exact hr.elim
  | ok fl =>
    cases fl with
    | next => exact hr.elim
    | brk => exact hr.elim
    | cont => exact hr.elim
    | ret v =>
      (refine hideP ?_; intro PP hPP); (obtain ⟨y, t', rfl, ho', hb', hf', hq⟩ := hr) <;> (refine hPP ?_; clear hPP; clear PP)
      (try dsimp only)
      show wpAny _ _ (field (.ref it) 2 >>= _) _ _ s'
      refine wpAny_bind (wpAny_field ho' rfl (x := .bool false) rfl ?_)
      show wpAny _ _ (if (Value.bool false == Value.bool true) = true then _ else _) _ _ s'
      rw [if_neg (show ¬ ((Value.bool false == Value.bool true) = true) from Bool.false_ne_true)]
      refine wpAny_bind (wpAny_field ho' rfl (x := .str (Str.ofString "") t) rfl ?_)
      refine wpAny_bind (wpAny_holding (wpAny_eqBool_str ?_))
      by_cases hy : y = Str.ofString ""
      · subst hy
        rw [if_pos rfl] at hq
        rw [decide_eq_true rfl]
        refine wpAny_bind (wpAny_rule (wpAny_bind ?_))
        show wpAny _ _ (field (.ref it) 0 >>= _) _ _ s'
        refine wpAny_bind (wpAny_field ho' rfl (x := .ref bm) rfl ?_)
        refine wpAny_bind ?_
        unfold slotLetsGo
        (try dsimp only)
        refine wpAny_bind (borrows_meth hb' hf' hfd ?_)
        rw [if_pos rfl]
        refine wpAny_pure ?_
        refine wpAny_bind (wpAny_setField_rec ho' (by simp) fun h1 o1 b1 => ?_)
        refine wpAny_bind (wpAny_setField_rec o1 (by simp) fun h2 o2 b2 => ?_)
        refine wpAny_setField_rec o2 (by simp) fun h3 o3 b3 => ?_
        show wpAny _ _ (newExc (.type "StopIteration") [] >>= _) _ _ _
        refine wpAny_bind ?_
        simp only [newExc, newTuple]
        refine wpAny_bind (wpAny_newObj_type ?_ (by size_fits))
        refine wpAny_bind (m := firstArgMember _ _) (wpAny_of_eq (a := Value.none) (by first | rfl | (simp only [firstArgMember]; rfl)) ?_)
        refine wpAny_newObj_type ?_ (by size_fits)
        simp only [raiseNew]
        refine wpAny_bind (wpAny_handled ?_)
        rw [show A.in1.handled = none from hh]
        refine wpAny_bind (wpAny_pure (wpAny_throw ?_))
        refine wpAny_bind (wpAny_isInstance (T := "StopIteration") (b := true) ⟨_, Heap.get?_push_size _ rfl, rfl⟩ isSubtype_stop ?_)
        refine wpAny_pure (hq _ ?_)
        exact Heap.ExtBut.push (Heap.ExtBut.push (fun b o hne e => b3.extBut b o hne (b2.extBut b o hne (b1.extBut b o hne e))) _) _
      · rw [if_neg hy] at hq
        rw [decide_eq_false (fun e => hy e.symm)]
        exact wpAny_pure ⟨_, rfl, wpAny_pure hq⟩
end
theorem slot_method_call : Slot "method" "__call__" "method.__call__" :=
  .of (owner := "method") (n := "__call__") (by rw [typeLookup_type, builtinLookup_eq_fast]; kernel_rfl) (by decide +kernel) (by decide +kernel) (by decide +kernel)
    (by first | exact .inl (by decide +kernel) | exact .inr (by decide +kernel)) (by rw [isSubtype_type]; kernel_rfl)
theorem args_iter2 (a b : Value) : argsOk "iter" ⟨[a, b], []⟩ := by unfold argsOk; kernel_rfl
section
variable {prog : Program} {w : World} {A : Around} {E : Value → Shared → Prop} {s : Shared} {g : Heap} {L : Addr} {m : Str → Option Value} {news : List (Addr × Obj)}
theorem iter2_K {bm : Addr} {f self : Value} {t : Tok} {Q : Value → Shared → Prop} (F : Fr g L s.heap m) (N : News g L s.heap news) (hm : (bm, methodObj f self) ∈ news)
    (h : ∀ I h', Fr g L h' m → News g L h' ((I, ciObj bm t) :: news) → (∀ p ∈ news, p.1 < I) → Q (.ref I) { s with heap := h' }) : wpAny (model prog w) A (call (.builtin "iter") [.ref bm, .str (Str.ofString "") t]) Q E s := by
  refine call_function_entry (by decide +kernel) (by decide +kernel) kdk_entry_iter (args_iter2 _ _) ?_
  unfold Builtin.«iter»
  refine wpAny_bind (m := someArgs "iter" 1 2 _) (wpAny_of_eq (a := [Value.ref bm, Value.str (Str.ofString "") t]) (by first | rfl | kernel_rfl!) ?_)
  have hT : s.TypeIs (.ref bm) "method" := ⟨_, (N _ hm).1, rfl⟩
  (try dsimp only)
  refine wpAny_bind (wpAny_specialOf (name := Str.ofString "__call__") hT slot_method_call.lookup ?_)
  refine wpAny_ite_split (fun hab => absurd hab (by decide)) (fun _ => ?_)
  refine wpAny_bind (wpAny_rule ?_)
  refine wpAny_bind (wpAny_newObj_type ?_ (by size_fits))
  exact wpAny_pure ⟨_, rfl, h _ _ (F.push _) (News.push F N _ rfl) (fun q hq => Heap.lt_size (N q hq).1)⟩
end
section
variable {prog : Program} {w : World} {A : Around} {E : Value → Shared → Prop} {s : Shared} {env : Env} {body orelse : List Stmt} {Q : Flow → Shared → Prop} {g : Heap} {L : Addr}
/-- a for loop over any iterator, by a word and a measure -/
theorem for_next {I : Addr} {x : Str} {px : Pos} (J : Nat → (Str → Option Value) → List (Addr × Obj) → Prop) {k : Nat} {m : Str → Option Value} {news : List (Addr × Obj)} (F : Fr g L s.heap m) (N : News g L s.heap news) (j : J k m news)
    (turn : ∀ k m news h tk, J k m news → Fr g L h m → News g L h news → wpAny (model prog w) A (pyNext (.ref I)) (fun r s₁ => match r with
      | none => wpAny (model prog w) A (execs orelse env) Q E s₁
      | some v => wpAny (model prog w) A (storeName env x v) (fun _ s₂ => wpAny (model prog w) A (execs body env) (WPost g L s J k Q) E s₂) E s₁) E { s with heap := h, toks := tk })
    (hE : PassesOwn (model prog w) A env E) : ForAt prog w A env (.Name x px) body orelse Q E (.ref I) s := by
  unfold ForAt
  refine codeAny_forLoop_any (fun k s' => ∃ h tk m news, s' = { s with heap := h, toks := tk } ∧ Fr g L h m ∧ News g L h news ∧ J k m news) ?_ k ⟨s.heap, s.toks, m, news, rfl, F, N, j⟩
  intro k s' jz2
  (refine hideP ?_; intro PP hPP); (obtain ⟨h, tk, m, news, rfl, F, N, j⟩ := jz2) <;> (refine hPP ?_; clear hPP; clear PP)
  refine wpAny_mono (wpAny_passesOwn hE (turn k m news h tk j F N)) (fun r s₁ hr => ?_) fun _ _ e => e
  cases r with
  | none => exact wpAny_passesOwn hE hr
  | some v =>
    refine wpAny_of_eq (a := ()) rfl (wpAny_assign_Name (wpAny_mono hr (fun _ s₂ q => wpAny_mono (wpAny_passesOwn hE q) (fun f s₃ hf => ?_) fun _ _ e => e) hE))
    cases f with
    | ret v => exact hf
    | brk => exact hf
    | cont => obtain ⟨k', h', tk', m', news', hlt, rfl, F', N', j'⟩ := hf; exact ⟨k', hlt, h', tk', m', news', rfl, F', N', j'⟩
    | next => obtain ⟨k', h', tk', m', news', hlt, rfl, F', N', j'⟩ := hf; exact ⟨k', hlt, h', tk', m', news', rfl, F', N', j'⟩
end

/-! T_init -/
theorem flushT_init : True ∧ True := by first | (row_walk; done) | (walk1; done) | exact ⟨trivial, trivial⟩
noncomputable abbrev ent (w : World) (k : Str) (t : Tok) (v : Value) : DictEntry := { hash := PyData.keyHash w.params k, key := .str k t, val := v }
noncomputable abbrev lexD (w : World) (a b c d tw : Tok) (ln fp : Value) (p : Addr) : Obj :=
  dictOf [ent w (Str.ofString "lineno") a ln, ent w (Str.ofString "instream") b fp, ent w (Str.ofString "whitespace") c (.str (Str.ofString "\n\t\r ") tw), ent w (Str.ofString "pushback") d (.ref p)] 4
theorem fr_keptS {h₀ h h' : Heap} {L : Addr} {m : Str → Option Value} {S : List Addr} {all : List (Addr × Obj)} (F : Fr h₀ L h m) (N : News h₀ L h all) (k : Kept h h' S) (hS : ∀ b ∈ S, ∃ o, (b, o) ∈ all) : Fr h₀ L h' m :=
  fr_kept F k (fun hL => by obtain ⟨o, ho⟩ := hS L hL; exact (N _ ho).2.1 rfl) (fun b hb => by obtain ⟨o, ho⟩ := hS b hb; exact (N _ ho).2.2)
theorem news_step {h₀ h h' : Heap} {L : Addr} {m : Str → Option Value} {S : List Addr} {all all' : List (Addr × Obj)} (F : Fr h₀ L h m) (N : News h₀ L h all) (k : Kept h h' S)
    (hs : ∀ q ∈ all', (q ∈ all ∧ q.1 ∉ S) ∨ (h'.get? q.1 = some q.2 ∧ ((∃ o, (q.1, o) ∈ all) ∨ h.get? q.1 = none))) : News h₀ L h' all' := fun q hq => by
  rcases hs q hq with ⟨a, b⟩ | ⟨a, b | b⟩
  · exact ⟨k _ _ (N q a).1 b, (N q a).2⟩
  · obtain ⟨o, ho⟩ := b; exact ⟨a, (N _ ho).2⟩
  · refine ⟨a, fun e => ?_, ?_⟩
    · have := F.ns.lt; rw [e] at b
      (refine hideP ?_; intro PP hPP); (obtain ⟨_, _, _, ho, _⟩ := F.ns) <;> (refine hPP ?_; clear hPP; clear PP)
      rw [ho] at b; cases b
    · cases e : h₀.get? q.1 with
      | none => rfl
      | some o => have := F.keep _ _ e; rw [b] at this; cases this
theorem init_code {w : World} {p : Program} {loose : List Str} {mean : ExcName → Option Value} {mg mb : Str → Option Value} {dp un : Nat} {fs : Option (List Env)} {gd : Option (List Code)} {h₀ : Heap} {s : Shared} {Q E : Value → Shared → Prop}
  (hdp : dp + 2 < recursionLimit) (hun : un + 32 < cLine)
  (X₀ : (hd.heap_39 w.params).In h₀) (T : Top p loose mean mg mb h₀) (st : h₀.StaysIn s.heap) {R : Result → Shared → Prop}
  {x dx : Addr} {v : Value} (hxd : @LT.lt Nat _ dx x)
  (hn : ∀ q ∈ [(x, instObj 101 dx), (dx, dictOf [] 0)], s.heap.get? q.1 = some q.2 ∧ h₀.get? q.1 = none)
  (ret : ∀ a b c d tw tl p np h' tk', Kept s.heap h' [dx] → h'.get? dx = some (lexD w a b c d tw (.int 1 tl) v p) → h'.get? p = some (listOf #[] np) → s.heap.get? p = none → @LT.lt Nat _ x p → R (.ok (.ret .none)) { s with heap := h', toks := tk' }) :
  codeAny (model PySem.Challenge.rw_ty0032_01.row.prog w) (arA dp un fs gd) (.call (.ref 77) ⟨[.ref x, v], []⟩) R s := by
    k_dflt (refine' enterP [(x, instObj 101 dx), (dx, dictOf [] 0)] (binds := [("self", .ref x), ("fp", v)]) ?k1 ?k2 ?k3 ?k4 ?k5 ?k6 ?k7 ?k9 ?kB ?_ ?c2 ?c3 ?c4 ?c5; (case k2 => k_asm); (case k3 => k_asm); (case k4 => k_asm); (case k5 => first | assumption | exact fun _ h => nomatch h); (case k6 => k_is); (case k7 => k_is); (case k1 => (first | exact lim0 hdp | (show dp < recursionLimit; omega))); (case k9 => first | exact BindsTo.of_eq rfl | exact binds_K (by k_in) rfl (by k_is) rfl rfl rfl | exact kp_binds (by exact Frag.In.keeps (by assumption) (by assumption)) (fun _ => rfl)); (case c5 => decide); (case kB => exact locs rfl); (case c2 => exact rfl); (case c3 => exact rfl); (case c4 => exact rfl); k_whole; intro g' L' h' tkE F' N' X' T' lt' kp' fr' st'; (try dsimp only); (try k_fold))
    (repeat' (first | (k_unfold; (try dsimp only)) | row_room_at HE | (k_end; wrow_close) | row_room_at HB | (dsimp only; (first | walk1 | row_room_at HE)) | (leave1; walk_say "STEP leave1"; try dsimp only)))
    (with_reducible rename Fr _ _ _ _ => F7)
    (with_reducible rename News _ _ _ _ => N7)
    (with_reducible rename _ ∧ _ => l7)
    refine ret _ _ _ _ _ _ _ _ _ _ ?_ (N7 _ (.tail _ (.tail _ (.head _)))).1 (N7 _ (.head _)).1 ?_ l7.1
    · intro b o hb hS
      by_cases e : b = x
      · subst e
        have h1 := (hn _ (.head _)).1
        dsimp only at h1
        rw [h1] at hb; cases hb
        exact (N7 _ (.tail _ (.head _))).1
      · refine kp' _ F7.keep b o hb ?_
        simp only [List.map_cons, List.map_nil, List.mem_cons, List.not_mem_nil, or_false] at hS ⊢
        rintro (q | q)
        · exact e q
        · exact hS q
    · refine fr' _ ?_ (N7 _ (.head _)).2.2
      intro q hq
      revert hq
      revert q
      refine' all_cons ?_ (all_cons ?_ (all_nil))
      · exact l7.1
      · exact l7.2

/-! T_lex -/
theorem flushT_lex : True ∧ True := by first | (row_walk; done) | (walk1; done) | exact ⟨trivial, trivial⟩
theorem wt_make (a : Addr) (r : List Value) (kw : List (Str × Value)) : (Code.builtin "type.__call__" ⟨.ref a :: r, kw⟩).weight = 1 := by first | rfl | kernel_rfl
theorem un_make (a : Addr) (r : List Value) (kw : List (Str × Value)) : (Code.builtin "type.__call__" ⟨.ref a :: r, kw⟩).cUnits = 1 := by first | rfl | kernel_rfl
noncomputable abbrev strD (w : World) (a b c d tw tl tr : Tok) (p f : Addr) : Obj :=
  dictOf [ent w (Str.ofString "lineno") a (.int 1 tl), ent w (Str.ofString "instream") b .none, ent w (Str.ofString "whitespace") c (.str (Str.ofString "\n\t\r ") tw), ent w (Str.ofString "pushback") d (.ref p), ent w (Str.ofString "read") tr (.ref f)] 5
/-- the lexer's objects -/
structure Lx where
  (x1 d1 p1 x0 d0 p0 f c cell S : Addr)
  (fo oc co : Obj)
  (a1 b1 c1 e1 tw1 a0 b0 c0 e0 tw0 tl0 tr0 : Tok)
noncomputable abbrev Lx.led (w : World) (lx : Lx) (sg : List Value) (ns : Nat) (pb : List Value) (np : Nat) (ln : Value) : List (Addr × Obj) :=
  [(lx.x1, instObj 101 lx.d1), (lx.d1, lexD w lx.a1 lx.b1 lx.c1 lx.e1 lx.tw1 ln (.ref lx.x0) lx.p1), (lx.p1, listOf pb.toArray np), (lx.f, lx.fo), (lx.c, lx.oc), (lx.x0, instObj 101 lx.d0),
   (lx.d0, strD w lx.a0 lx.b0 lx.c0 lx.e0 lx.tw0 lx.tl0 lx.tr0 lx.p0 lx.f), (lx.S, listOf sg.toArray ns), (lx.cell, lx.co)]
noncomputable def Lx.ok (lx : Lx) : Prop := @LT.lt Nat _ lx.cell lx.S ∧ @LT.lt Nat _ lx.S lx.d0 ∧ @LT.lt Nat _ lx.d0 lx.x0 ∧ @LT.lt Nat _ lx.x0 lx.c ∧ @LT.lt Nat _ lx.c lx.f ∧ @LT.lt Nat _ lx.f lx.d1 ∧ @LT.lt Nat _ lx.d1 lx.x1 ∧ @LT.lt Nat _ lx.x1 lx.p1 ∧ ∃ fd, lx.fo.data = .func fd
/-- what the stream's read gives: the first sign, or '' -/
noncomputable def ReadSpec (w : World) (lx : Lx) : Prop :=
  ∀ {p : Program} {loose : List Str} {mean : ExcName → Option Value} {mg mb : Str → Option Value} {dp un : Nat} {fs : Option (List Env)} {gd : Option (List Code)} {h₀ : Heap} {s : Shared} {Q E : Value → Shared → Prop} (_ : dp + 2 < recursionLimit) (_ : un + 16 < cLine)
    (_ : (hd.heap_39 w.params).In h₀) (_ : Top p loose mean mg mb h₀) (_ : h₀.StaysIn s.heap) (sg : List Value) (ns : Nat) (t : Tok),
    (∀ q ∈ [(lx.f, lx.fo), (lx.c, lx.oc), (lx.S, listOf sg.toArray ns), (lx.cell, lx.co)], s.heap.get? q.1 = some q.2 ∧ h₀.get? q.1 = none) → sg.length ≤ 1000 →
    (match sg with
      | [] => ∀ t' h' tk', Kept s.heap h' [] → Q (.str (Str.ofString "") t') { s with heap := h', toks := tk' }
      | x :: r => ∀ h' tk' n', Kept s.heap h' [lx.S] → h'.get? lx.S = some (listOf r.toArray n') → Q x { s with heap := h', toks := tk' }) →
    wpAny (model PySem.Challenge.rw_ty0032_01.row.prog w) (arA dp un fs gd) (call (.ref lx.f) [.int 1 t]) Q E s
theorem lex_pack {w : World} {g h h' : Heap} {L : Addr} {m : Str → Option Value} {x1 d1 p1 x0 d0 p0 f c cell S : Addr} {fo oc co : Obj} {a1 b1 c1 e1 tw1 tl1 a0 b0 c0 e0 tw0 tl0 tr0 : Tok} {np0 np1 nX : Nat} {ys : List Value} {tab : Addr × Obj} (F : Fr g L h m)
    (N : News g L h [(x1, instObj 101 d1), (d1, dictOf [] 0), (f, fo), (c, oc), (p0, listOf #[] np0), (x0, instObj 101 d0), (d0, strD w a0 b0 c0 e0 tw0 tl0 tr0 p0 f), (S, listOf ys.toArray nX), (cell, co), tab]) (k : Kept h h' [d1])
    (e1' : h'.get? d1 = some (lexD w a1 b1 c1 e1 tw1 (.int 1 tl1) (.ref x0) p1)) (e2 : h'.get? p1 = some (listOf #[] np1)) (e3 : h.get? p1 = none) (hx : @LT.lt Nat _ d1 x1)
    (hl : @LT.lt Nat _ f d1 ∧ @LT.lt Nat _ c d1 ∧ @LT.lt Nat _ p0 d1 ∧ @LT.lt Nat _ x0 d1 ∧ @LT.lt Nat _ d0 d1 ∧ @LT.lt Nat _ S d1 ∧ @LT.lt Nat _ cell d1 ∧ @LT.lt Nat _ 107 d1) :
    ∃ lx : Lx, lx = ⟨x1, d1, p1, x0, d0, p0, f, c, cell, S, fo, oc, co, a1, b1, c1, e1, tw1, a0, b0, c0, e0, tw0, tl0, tr0⟩ ∧ News g L h' (lx.led w ys nX [] np1 (.int 1 tl1)) := by
  refine ⟨_, rfl, news_step F N k fun q hq => ?_⟩
  have ne : ∀ {a : Nat}, a < d1 → a ∉ [d1] := fun h e => Nat.ne_of_lt h (List.mem_singleton.mp e)
  simp only [Lx.led, List.mem_cons, List.not_mem_nil, or_false] at hq
  rcases hq with rfl | rfl | rfl | rfl | rfl | rfl | rfl | rfl | rfl
  · exact .inl ⟨.head _, fun e => Nat.ne_of_gt hx (List.mem_singleton.mp e)⟩
  · exact .inr ⟨e1', .inl ⟨_, .tail _ (.head _)⟩⟩
  · exact .inr ⟨e2, .inr e3⟩
  · exact .inl ⟨.tail _ (.tail _ (.head _)), ne hl.1⟩
  · exact .inl ⟨.tail _ (.tail _ (.tail _ (.head _))), ne hl.2.1⟩
  · exact .inl ⟨.tail _ (.tail _ (.tail _ (.tail _ (.tail _ (.head _))))), ne hl.2.2.2.1⟩
  · exact .inl ⟨.tail _ (.tail _ (.tail _ (.tail _ (.tail _ (.tail _ (.head _)))))), ne hl.2.2.2.2.1⟩
  · exact .inl ⟨.tail _ (.tail _ (.tail _ (.tail _ (.tail _ (.tail _ (.tail _ (.head _))))))), ne hl.2.2.2.2.2.1⟩
  · exact .inl ⟨.tail _ (.tail _ (.tail _ (.tail _ (.tail _ (.tail _ (.tail _ (.tail _ (.head _)))))))), ne hl.2.2.2.2.2.2.1⟩
theorem truthy_L {prog : Program} {w : World} {A : Around} {E : Value → Shared → Prop} {s : Shared} {g : Heap} {L : Addr} {news : List (Addr × Obj)} {D : Addr} {its : List Value} {n : Nat} {Q : Bool → Shared → Prop} (N : News g L s.heap news) (hm : (D, listOf its.toArray n) ∈ news)
    (hz : its.length ≤ 1000) (h : Q (!its.isEmpty) { s with toks := s.toks + 1 + 1 }) : wpAny (model prog w) A (truthy (.ref D)) Q E s := by
  refine wpAny_truthy_list (items := its.toArray) ⟨_, (N _ hm).1, rfl, _, rfl⟩ (by simp only [List.size_toArray]; omega) ?_
  simpa using h
theorem seq0 {y : Value} {r : List Value} : seqIndex? 0 (y :: r).toArray.size = some 0 := by
  have h : (y :: r).toArray.size = r.length + 1 := by simp
  rw [h]
  unfold seqIndex?
  simp only [Int.lt_irrefl, if_false]
  rw [if_pos (by simp)]
  rfl
theorem kept_up {g h h' : Heap} {L : Addr} {m : Str → Option Value} {news news' : List (Addr × Obj)} {S : List Addr} {P : Addr × Obj → Prop} (kp : ∀ h', (∀ b o, g.get? b = some o → h'.get? b = some o) → Kept h h' (news.map (·.1))) (F : Fr g L h' m) (N : News g L h' news')
    (hn : ∀ q ∈ news, h.get? q.1 = some q.2 ∧ P q) (hs : ∀ q ∈ news, q.1 ∈ S ∨ q ∈ news') : Kept h h' S := fun b o hb hS => by
  by_cases hm : b ∈ news.map (·.1)
  · (refine hideP ?_; intro PP hPP); (obtain ⟨q, hq, rfl⟩ := List.mem_map.mp hm) <;> (refine hPP ?_; clear hPP; clear PP)
    rcases hs q hq with e | e
    · exact absurd e hS
    · have h1 := (hn q hq).1
      rw [h1] at hb; cases hb
      exact (N q e).1
  · exact kp _ F.keep b o hb hm
theorem fresh_ne {g h : Heap} {L p : Addr} {l : List (Addr × Obj)} (N : News g L h l) (e : h.get? p = none) : ∀ q ∈ l, @Ne Nat q.1 p := fun q hq e' => by
  have := (N q hq).1
  rw [show q.1 = p from e', e] at this; cases this
section
theorem lexer_call {w : World} {p : Program} {loose : List Str} {mean : ExcName → Option Value} {mg mb : Str → Option Value} {dp un : Nat} {fs : Option (List Env)} {gd : Option (List Code)} {h₀ : Heap} {s : Shared} {Q E : Value → Shared → Prop}
  (hdp : dp + 8 < recursionLimit) (hun : un + 64 < cLine)
  (X₀ : (hd.heap_39 w.params).In h₀) (T : Top p loose mean mg mb h₀) (st : h₀.StaysIn s.heap)
  {text : Str} {t1 : Tok} (hC : CodeHd h₀ 111 107) {tabs : List (Addr × Obj)} (ht : tabs = [(107, tabObj #[])])
  (hn : ∀ q ∈ tabs, s.heap.get? q.1 = some q.2 ∧ h₀.get? q.1 = none) (hw : text.length ≤ 1000)
  (ret : ∀ (lx : Lx) sg ns np tl h' tk', lx.ok → ReadSpec w lx → StrsAre sg (signs text) → Kept s.heap h' [107] → (∃ ps, h'.get? 107 = some (tabObj ps)) → (∀ q ∈ lx.led w sg ns [] np (.int 1 tl), h'.get? q.1 = some q.2 ∧ s.heap.get? q.1 = none) →
    Q (.ref lx.x1) { s with heap := h', toks := tk' }) :
  wpAny (model PySem.Challenge.rw_ty0032_01.row.prog w) (arA dp un fs gd) (call (.ref 112) [.str text t1]) Q E s := by
    subst ht
    refine wpAny_call ?_
    k_dflt (refine' enterC [(107, tabObj #[])] (binds := [("text", .str text t1)]) ?k1 ?k2 ?k3 ?k4 ?k5 ?k6 ?k7 ?k9 ?kB ?_ ?kD ?c2 ?c3 ?c4; (case k2 => k_asm); (case k3 => k_asm); (case k4 => k_asm); (case k5 => first | assumption | exact fun _ h => nomatch h); (case k6 => k_is); (case k7 => k_is); (case k1 => (first | exact lim0 hdp | (show dp < recursionLimit; omega))); (case k9 => first | exact BindsTo.of_eq rfl | exact binds_K (by k_in) rfl (by k_is) rfl rfl rfl | exact kp_binds (by exact Frag.In.keeps (by assumption) (by assumption)) (fun _ => rfl)); (case kB => exact rfl); (case kD => decide +kernel); (case c2 => exact rfl); (case c3 => exact rfl); (case c4 => exact rfl); k_whole; intro g' L' h' tk' cells' F' N' Y' X' T' lt' kp' fr' st'; k_cells Y'; (try simp only [List.cons_append, List.nil_append] at N'); (try dsimp only); (try k_fold))
    have hC' : CodeHd g' 111 107 := hC.keeps st'
    have l0 : @LT.lt Nat _ 107 L' := lt' _ (.head _)
    (repeat' (first | (k_unfold; (try dsimp only)) | row_room_at HE | (k_end; wrow_close) | ((with_reducible show wpAny _ _ (storeName _ _ _) _ _ _); (k_here; refine haltNP (by with_reducible assumption) ?_)) | ((with_reducible show wpAny _ _ (call (Value.ref 101) _) _ _ _); k_here; refine halt ?_) | row_room_at HB | (dsimp only; (first | ((with_reducible show wpAny _ _ (storeName _ _ _) _ _ _); (k_here; refine haltNP (by with_reducible assumption) ?_)) | ((with_reducible show wpAny _ _ (call (Value.ref 101) _) _ _ _); k_here; refine halt ?_) | walk1 | row_room_at HE)) | (leave1; walk_say "STEP leave1"; try dsimp only)))
    refine go ?_
    (with_reducible rename NewPlain _ _ _ _ => npY)
    (with_reducible rename Fr _ _ _ _ => F2)
    (with_reducible rename News _ _ _ _ => N2)
    (with_reducible rename CarriedAll _ _ => caY)
    (with_reducible rename g'.get? _ = none => fr2)
    obtain ⟨nX, NX⟩ := made_enters npY F2 N2 fr2
    have sX := StrsAre.ofCarried caY
    clear N2
    (with_reducible rename News _ _ _ [_, _] => N0)
    have lX : @LT.lt Nat _ (L' + 1) h'.objs.size := Heap.lt_size (N0 _ (.head _)).1
    dsimp only at NX
    (with_reducible rename MadeMark => mkY)
    clear npY caY mkY fr2 N0
    generalize h'.objs.size = S at *
    (repeat' (first | (k_unfold; (try dsimp only)) | row_room_at HE | (k_end; wrow_close) | ((with_reducible show wpAny _ _ (storeName _ _ _) _ _ _); (k_here; refine haltNP (by with_reducible assumption) ?_)) | ((with_reducible show wpAny _ _ (call (Value.ref 101) _) _ _ _); k_here; refine halt ?_) | row_room_at HB | (dsimp only; (first | ((with_reducible show wpAny _ _ (storeName _ _ _) _ _ _); (k_here; refine haltNP (by with_reducible assumption) ?_)) | ((with_reducible show wpAny _ _ (call (Value.ref 101) _) _ _ _); k_here; refine halt ?_) | walk1 | row_room_at HE)) | (leave1; walk_say "STEP leave1"; try dsimp only)))
    refine go ?_
    (with_reducible rename Fr _ _ _ _ => F3)
    (with_reducible rename News _ _ _ _ => N3)
    refine' call_cls ?c1 X' ?c3 ?c4 ?c5 ?c6 ?_
    (case c1 => exact F3)
    (case c3 => exact N3)
    (case c4 => k_is)
    (case c5 => k_is)
    (case c6 => k_is)
    clear F3 N3
    intro x0 d0 h4 F4 N4 l4 l5
    have l5' : @LT.lt Nat _ d0 x0 := l5
    have l4' := allLt_of l4
    simp only [AllLt, and_true] at l4'
    refine' init_code (Q := fun _ _ => True) (E := fun _ _ => True) ?ia ?ib X' T' ?ist l5' ?ihn ?_
    have wm := wt_make 101 [.none] []
    have um := un_make 101 [.none] []
    (case ia => ((try dsimp only [arA, Around.deeper, Around.under]); (try rw [wt_make]); (try rw [un_make]); omega))
    (case ib => ((try dsimp only [arA, Around.deeper, Around.under]); (try rw [wt_make]); (try rw [un_make]); omega))
    (case ist => exact F4.keep)
    (case ihn => exact hn_of N4 (by kcj_all))

    intro a0 b0 c0 e0 tw0 tl0 p0 np0 h5 tk5 kp5 eq5 ep5 en5 lp5
    (with_reducible rename List Value => ys)
    (with_reducible rename Obj => co)
    have F5 := fr_kept1 F4 N4 (.tail _ (.head _)) kp5
    have N5 : News g' L' h5 [(p0, listOf #[] np0), (x0, instObj 101 d0), (d0, lexD w a0 b0 c0 e0 tw0 (.int 1 tl0) .none p0), (S, listOf ys.toArray nX), (L' + 1, co), (107, tabObj #[])] := by
      refine news_step F4 N4 kp5 fun q hq => ?_
      revert hq
      revert q
      refine' all_cons ?_ (all_cons ?_ (all_cons ?_ (all_cons ?_ (all_cons ?_ (all_cons ?_ (all_nil))))))
      · exact .inr ⟨ep5, .inr en5⟩
      · exact .inl ⟨.head _, by rw [List.mem_singleton]; exact (Nat.ne_of_lt l5').symm⟩
      · exact .inr ⟨eq5, .inl ⟨_, .tail _ (.head _)⟩⟩
      · exact .inl ⟨.tail _ (.tail _ (.head _)), by rw [List.mem_singleton]; exact Nat.ne_of_lt l4'.1⟩
      · exact .inl ⟨.tail _ (.tail _ (.tail _ (.head _))), by rw [List.mem_singleton]; exact Nat.ne_of_lt l4'.2.1⟩
      · exact .inl ⟨.tail _ (.tail _ (.tail _ (.tail _ (.head _)))), by rw [List.mem_singleton]; exact Nat.ne_of_lt l4'.2.2⟩
    have q1 : @Ne Nat x0 p0 := fresh_ne N4 en5 _ (.head _)
    have q2 : @Ne Nat d0 p0 := fresh_ne N4 en5 _ (.tail _ (.head _))
    have q3 : @Ne Nat S p0 := fresh_ne N4 en5 _ (.tail _ (.tail _ (.head _)))
    have q4 : @Ne Nat (L' + 1) p0 := fresh_ne N4 en5 _ (.tail _ (.tail _ (.tail _ (.head _))))
    have q5 : @Ne Nat 107 p0 := fresh_ne N4 en5 _ (.tail _ (.tail _ (.tail _ (.tail _ (.head _)))))
    clear F4 N4 kp5 eq5 ep5 en5 lp5
    refine ⟨rfl, ?_⟩
    (try dsimp only)
    (repeat' (first | (k_unfold; (try dsimp only)) | row_room_at HE | (k_end; wrow_close) | ((with_reducible show wpAny _ _ (storeName _ _ _) _ _ _); (k_here; refine haltNP (by with_reducible assumption) ?_)) | ((with_reducible show wpAny _ _ (call (Value.ref 101) _) _ _ _); k_here; refine halt ?_) | row_room_at HB | (dsimp only; (first | ((with_reducible show wpAny _ _ (storeName _ _ _) _ _ _); (k_here; refine haltNP (by with_reducible assumption) ?_)) | ((with_reducible show wpAny _ _ (call (Value.ref 101) _) _ _ _); k_here; refine halt ?_) | walk1 | row_room_at HE)) | (leave1; walk_say "STEP leave1"; try dsimp only)))
    (with_reducible rename News _ _ _ _ => N6)
    dsimp only [lexD, ent] at N6
    (repeat' (first | (k_unfold; (try dsimp only)) | row_room_at HE | (k_end; wrow_close) | ((with_reducible show wpAny _ _ (storeName _ _ _) _ _ _); (k_here; refine haltNP (by with_reducible assumption) ?_)) | ((with_reducible show wpAny _ _ (call (Value.ref 101) _) _ _ _); k_here; refine halt ?_) | row_room_at HB | (dsimp only; (first | ((with_reducible show wpAny _ _ (storeName _ _ _) _ _ _); (k_here; refine haltNP (by with_reducible assumption) ?_)) | ((with_reducible show wpAny _ _ (call (Value.ref 101) _) _ _ _); k_here; refine halt ?_) | walk1 | row_room_at HE)) | (leave1; walk_say "STEP leave1"; try dsimp only)))
    refine go ?_
    rename_i f c oc vs' tq ct _ _ dd1 dd2 l1 l2 h7 F7
    have m1 : @LT.lt Nat _ c f := l2
    (refine hideP ?_; intro PP hPP); (obtain ⟨l1a, l1b, l1c, l1d, l1e, l1f⟩ := l1) <;> (refine hPP ?_; clear hPP; clear PP)
    refine' call_cls ?e1 X' ?e3 ?e4 ?e5 ?e6 ?_
    (case e1 => exact F7)
    (case e3 => exact N6)
    (case e4 => k_is)
    (case e5 => k_is)
    (case e6 => k_is)
    clear F7
    intro x1 d1 h8 F8 N8 l8 l9
    have l9' : @LT.lt Nat _ d1 x1 := l9
    have l8' := allLt_of l8
    simp only [AllLt, and_true] at l8'
    clear N6
    have wm := wt_make 101 [.ref x0] []
    have um := un_make 101 [.ref x0] []
    refine' init_code (Q := fun _ _ => True) (E := fun _ _ => True) ?ja ?jb X' T' ?jst l9' ?jhn ?_
    (case ja => ((try dsimp only [arA, Around.deeper, Around.under]); (try rw [wt_make]); (try rw [un_make]); omega))
    (case jb => ((try dsimp only [arA, Around.deeper, Around.under]); (try rw [wt_make]); (try rw [un_make]); omega))
    (case jst => exact F8.keep)
    (case jhn => exact hn_of N8 (by kcj_all))
    intro a1 b1 c1 e1 tw1 tl1 p1 np1 h9 tk9 kp9 eq9 ep9 en9 lp9
    have F9 := fr_kept1 F8 N8 (.tail _ (.head _)) kp9
    refine ⟨rfl, ?_⟩
    (try dsimp only)
    (repeat (first | (k_unfold; (try dsimp only)) | row_room_at HE | dsimp only))
    (try dsimp only)
    have hg7 : ∃ ps, h9.get? 107 = some (tabObj ps) := ⟨_, kp9 107 _ (N8 (107, _) (by k_mem)).1 (fun e => Nat.ne_of_lt l8'.2.2.2.2.2.2.2 (List.mem_singleton.mp e))⟩
    (refine hideP ?_; intro PP hPP); (obtain ⟨lx, hlx, N9⟩ := lex_pack F8 N8 kp9 eq9 ep9 en9 l9' l8') <;> (refine hPP ?_; clear hPP; clear PP)
    have ex : x1 = lx.x1 := by rw [hlx]
    rw [ex]
    refine ret lx ys nX np1 tl1 h9 tk9 ?ok ?rs sX ?kp hg7 ?hn
    (case ok =>
      rw [hlx]
      exact ⟨lX, l4'.1, l5', l1b, m1, l8'.1, l9', lp9, _, rfl⟩)
    (case kp => exact kp' _ F9.keep)
    (case hn =>
      intro q hq
      refine ⟨(N9 q hq).1, fr' q.1 (fun q' hq' => ?_) (N9 q hq).2.2⟩
      rw [List.mem_singleton.mp hq']
      rw [hlx] at hq
      simp only [Lx.led, List.mem_cons, List.not_mem_nil, or_false] at hq
      (try dsimp only)
      have w1 : @LT.lt Nat _ 107 (L' + 1) := Nat.lt_succ_of_lt l0
      have w2 := Nat.lt_trans w1 lX
      have w3 := Nat.lt_trans w2 l4'.1
      have w4 := Nat.lt_trans w3 l5'
      have w5 := Nat.lt_trans w4 l1b
      have w6 := Nat.lt_trans w5 m1
      have w7 := Nat.lt_trans w6 l8'.1
      have w8 := Nat.lt_trans w7 l9'
      have w9 := Nat.lt_trans w8 lp9
      rcases hq with rfl | rfl | rfl | rfl | rfl | rfl | rfl | rfl | rfl
      · exact w8
      · exact w7
      · exact w9
      · exact w6
      · exact w5
      · exact w4
      · exact w3
      · exact w2
      · exact w1)
    (case rs =>
      subst hlx
      clear hg7 N9 ret F8 F9 N8 kp9 eq9 ep9 en9 hn kp' fr' st'
      intro p loose mean mg mb dp un fs gd h₀ s Q E hdp hun X₀ T st sg ns t hn hsz ret
      dsimp only at hn ret
      refine wpAny_call ?_
      cases sg with
      | nil =>
        k_dflt (refine' enterL _ ?k1 ?k2 ?k3 ?k4 ?k5 ?ko ?kc ?kd ?kv ?k9 ?kB ?_ ?c2 ?c3 ?c4 ?c5; (case k2 => k_asm); (case k3 => k_asm); (case k4 => assumption); (case k5 => assumption); (case ko => k_mem); (case kc => k_mem); (case kd => assumption); (case kv => assumption); (case k1 => (first | exact lim2 hdp rfl | exact lim1 hdp rfl | exact lim2 hun rfl | exact lim1 hun rfl | exact lim0 hdp | exact lim0 hun | exact lim3 hdp rfl | exact lim3 hun rfl | ((try dsimp only [arA, Around.deeper]); omega))); (case k9 => exact rfl); (case c5 => decide); (case kB => exact locs rfl); (case c2 => exact rfl); (case c3 => exact rfl); (case c4 => exact rfl); k_whole; intro gL LL hL tkL FL NL XL TL ltL kpL stL; (try dsimp only); (try k_fold))
        (repeat' (first | (k_unfold; (try dsimp only)) | row_room_at HE | (k_end; wrow_close) | ((with_reducible show wpAny _ _ (storeName _ _ _) _ _ _); (k_here; refine haltNP (by with_reducible assumption) ?_)) | ((with_reducible show wpAny _ _ (call (Value.ref 101) _) _ _ _); k_here; refine halt ?_) | row_room_at HB | (dsimp only; (first | ((with_reducible show wpAny _ _ (storeName _ _ _) _ _ _); (k_here; refine haltNP (by with_reducible assumption) ?_)) | ((with_reducible show wpAny _ _ (call (Value.ref 101) _) _ _ _); k_here; refine halt ?_) | walk1 | row_room_at HE)) | (leave1; walk_say "STEP leave1"; try dsimp only)))
        exact ret _ _ _ (kept_ro kpL FL NL hn)
      | cons y r =>
        k_dflt (refine' enterL _ ?k1 ?k2 ?k3 ?k4 ?k5 ?ko ?kc ?kd ?kv ?k9 ?kB ?_ ?c2 ?c3 ?c4 ?c5; (case k2 => k_asm); (case k3 => k_asm); (case k4 => assumption); (case k5 => assumption); (case ko => k_mem); (case kc => k_mem); (case kd => assumption); (case kv => assumption); (case k1 => (first | exact lim2 hdp rfl | exact lim1 hdp rfl | exact lim2 hun rfl | exact lim1 hun rfl | exact lim0 hdp | exact lim0 hun | exact lim3 hdp rfl | exact lim3 hun rfl | ((try dsimp only [arA, Around.deeper]); omega))); (case k9 => exact rfl); (case c5 => decide); (case kB => exact locs rfl); (case c2 => exact rfl); (case c3 => exact rfl); (case c4 => exact rfl); k_whole; intro gL LL hL tkL FL NL XL TL ltL kpL stL; (try dsimp only); (try k_fold))
        (repeat' (first | (k_unfold; (try dsimp only)) | row_room_at HE | (k_end; wrow_close) | ((with_reducible show wpAny _ _ (storeName _ _ _) _ _ _); (k_here; refine haltNP (by with_reducible assumption) ?_)) | ((with_reducible show wpAny _ _ (call (Value.ref 101) _) _ _ _); k_here; refine halt ?_) | row_room_at HB | (dsimp only; (first | ((with_reducible show wpAny _ _ (storeName _ _ _) _ _ _); (k_here; refine haltNP (by with_reducible assumption) ?_)) | ((with_reducible show wpAny _ _ (call (Value.ref 101) _) _ _ _); k_here; refine halt ?_) | walk1 | row_room_at HE)) | (leave1; walk_say "STEP leave1"; try dsimp only)))
        refine truthy_L (its := y :: r) NL (.tail _ (.tail _ (.head _))) hsz ?_
        dsimp only [List.isEmpty_cons, Bool.not_false]
        (repeat' (first | (k_unfold; (try dsimp only)) | row_room_at HE | (k_end; wrow_close) | ((with_reducible show wpAny _ _ (storeName _ _ _) _ _ _); (k_here; refine haltNP (by with_reducible assumption) ?_)) | ((with_reducible show wpAny _ _ (call (Value.ref 101) _) _ _ _); k_here; refine halt ?_) | row_room_at HB | (dsimp only; (first | ((with_reducible show wpAny _ _ (storeName _ _ _) _ _ _); (k_here; refine haltNP (by with_reducible assumption) ?_)) | ((with_reducible show wpAny _ _ (call (Value.ref 101) _) _ _ _); k_here; refine halt ?_) | walk1 | row_room_at HE)) | (leave1; walk_say "STEP leave1"; try dsimp only)))
        refine kl_popAt (k := 0) (p := []) (q := r) (y := y) FL NL (by decide) seq0 rfl (by k_upd) ?_ ?_
        · refine size_small ?_
          simpa using hsz
        · intro h3 F3 N3
          dsimp only [List.nil_append] at N3
          refine ret h3 _ _ ?_ (N3 _ (.tail _ (.tail _ (.head _)))).1
          refine kept_up kpL F3 N3 hn fun q hq => ?_
          revert hq
          revert q
          exact all_cons (by (first | k_mem | exact Or.inl (by k_mem) | exact Or.inr (by (repeat (first | exact List.Mem.head _ | apply List.Mem.tail))))) (all_cons (by (first | k_mem | exact Or.inl (by k_mem) | exact Or.inr (by (repeat (first | exact List.Mem.head _ | apply List.Mem.tail))))) (all_cons (by (first | k_mem | exact Or.inl (by k_mem) | exact Or.inr (by (repeat (first | exact List.Mem.head _ | apply List.Mem.tail))))) (all_cons (by (first | k_mem | exact Or.inl (by k_mem) | exact Or.inr (by (repeat (first | exact List.Mem.head _ | apply List.Mem.tail))))) (all_nil)))))
end

/-! T_push -/
theorem flushT_push : True ∧ True := by first | (row_walk; done) | (walk1; done) | exact ⟨trivial, trivial⟩
section
theorem push_call {w : World} {p : Program} {loose : List Str} {mean : ExcName → Option Value} {mg mb : Str → Option Value} {dp un : Nat} {fs : Option (List Env)} {gd : Option (List Code)} {h₀ : Heap} {s : Shared} {Q E : Value → Shared → Prop}
  (hdp : dp + 2 < recursionLimit) (hun : un + 16 < cLine)
  (X₀ : (hd.heap_39 w.params).In h₀) (T : Top p loose mean mg mb h₀) (st : h₀.StaysIn s.heap)
  {x1 d1 p1 : Addr} {a b c d tw : Tok} {ln fp v : Value} {pb : List Value} {np : Nat} (ho : @LT.lt Nat _ d1 x1 ∧ @LT.lt Nat _ x1 p1) (hz : pb.length ≤ 500)
  (hn : ∀ q ∈ [(x1, instObj 101 d1), (d1, lexD w a b c d tw ln fp p1), (p1, listOf pb.toArray np)], s.heap.get? q.1 = some q.2 ∧ h₀.get? q.1 = none)
  (ret : ∀ h' tk', Kept s.heap h' [p1] → h'.get? p1 = some (listOf (pb ++ [v]).toArray (np + 1)) → Q .none { s with heap := h', toks := tk' }) :
  wpAny (model PySem.Challenge.rw_ty0032_01.row.prog w) (arA dp un fs gd) (call (.ref 98) [.ref x1, v]) Q E s := by
    obtain ⟨o1, o2⟩ := ho
    dsimp only [lexD, ent] at hn
    refine wpAny_call ?_
    k_dflt (refine' enterP _ (binds := [("self", .ref x1), ("token", v)]) ?k1 ?k2 ?k3 ?k4 ?k5 ?k6 ?k7 ?k9 ?kB ?_ ?c2 ?c3 ?c4 ?c5; (case k2 => k_asm); (case k3 => k_asm); (case k4 => k_asm); (case k5 => first | assumption | exact fun _ h => nomatch h); (case k6 => k_is); (case k7 => k_is); (case k1 => (first | exact lim0 hdp | (show dp < recursionLimit; omega))); (case k9 => first | exact BindsTo.of_eq rfl | exact binds_K (by k_in) rfl (by k_is) rfl rfl rfl | exact kp_binds (by exact Frag.In.keeps (by assumption) (by assumption)) (fun _ => rfl)); (case c5 => decide); (case kB => exact locs rfl); (case c2 => exact rfl); (case c3 => exact rfl); (case c4 => exact rfl); k_whole; intro g' L' h' tkE F' N' X' T' lt' kp' fr' st'; (try dsimp only); (try k_fold))
    (repeat' (first | (k_unfold; (try dsimp only)) | row_room_at HE | (k_end; wrow_close) | ((with_reducible show wpAny _ _ (call (Value.builtin "list.append") _ _) _ _ _); (k_here; (with_reducible show wpAny _ _ (call (Value.builtin _) [Value.ref _, _]) _ _ _); k_dflt (refine' append_K (by k_asm) (by k_asm) (by k_upd) ?_ (by (refine size_small ?_; (try simp only [List.size_toArray]); omega)); k_whole); intro h'z0 F'z0 N'z0; (try k_sweep))) | row_room_at HB | (dsimp only; (first | ((with_reducible show wpAny _ _ (call (Value.builtin "list.append") _ _) _ _ _); (k_here; (with_reducible show wpAny _ _ (call (Value.builtin _) [Value.ref _, _]) _ _ _); k_dflt (refine' append_K (by k_asm) (by k_asm) (by k_upd) ?_ (by (refine size_small ?_; (try simp only [List.size_toArray]); omega)); k_whole); intro h'z0 F'z0 N'z0; (try k_sweep))) | walk1 | row_room_at HE)) | (leave1; walk_say "STEP leave1"; try dsimp only)))
    (try dsimp only)
    (repeat (first | (k_unfold; (try dsimp only)) | row_room_at HE | dsimp only))
    (try dsimp only)
    (with_reducible rename Fr _ _ _ _ => F7)
    (with_reducible rename News _ _ _ _ => N7)
    rw [List.push_toArray] at N7
    refine ret _ _ (kept_up kp' F7 N7 hn fun q hq => ?_) (N7 _ (.tail _ (.tail _ (.head _)))).1
    revert hq
    revert q
    exact all_cons (by (first | k_mem | exact Or.inl (by k_mem) | exact Or.inr (by (repeat (first | exact List.Mem.head _ | apply List.Mem.tail))))) (all_cons (by (first | k_mem | exact Or.inl (by k_mem) | exact Or.inr (by (repeat (first | exact List.Mem.head _ | apply List.Mem.tail))))) (all_cons (by (first | k_mem | exact Or.inl (by k_mem) | exact Or.inr (by (repeat (first | exact List.Mem.head _ | apply List.Mem.tail))))) (all_nil)))
end

/-! T_read -/
theorem flushT_read : True ∧ True := by first | (row_walk; done) | (walk1; done) | exact ⟨trivial, trivial⟩
noncomputable abbrev Lx.led8 (w : World) (lx : Lx) (sg : List Value) (ns : Nat) (ln : Value) : List (Addr × Obj) :=
  [(lx.x1, instObj 101 lx.d1), (lx.d1, lexD w lx.a1 lx.b1 lx.c1 lx.e1 lx.tw1 ln (.ref lx.x0) lx.p1), (lx.f, lx.fo), (lx.c, lx.oc), (lx.x0, instObj 101 lx.d0),
   (lx.d0, strD w lx.a0 lx.b0 lx.c0 lx.e0 lx.tw0 lx.tl0 lx.tr0 lx.p0 lx.f), (lx.S, listOf sg.toArray ns), (lx.cell, lx.co)]
noncomputable def ReadRes (w : World) (lx : Lx) (sg : List Value) (h h' : Heap) (v : Value) : Prop :=
  match sg with
  | [] => (∃ t, v = .str (Str.ofString "") t) ∧ Kept h h' []
  | x :: r => v = x ∧ Kept h h' [lx.S, lx.d1] ∧ (∃ ns', h'.get? lx.S = some (listOf r.toArray ns')) ∧ ∃ k' tl', h'.get? lx.d1 = some (lexD w lx.a1 lx.b1 lx.c1 lx.e1 lx.tw1 (.int k' tl') (.ref lx.x0) lx.p1)
section
theorem read_code {w : World} {p : Program} {loose : List Str} {mean : ExcName → Option Value} {mg mb : Str → Option Value} {dp un : Nat} {fs : Option (List Env)} {gd : Option (List Code)} {h₀ : Heap} {s : Shared} {Q E : Value → Shared → Prop}
  (hdp : dp + 4 < recursionLimit) (hun : un + 32 < cLine)
  (X₀ : (hd.heap_39 w.params).In h₀) (T : Top p loose mean mg mb h₀) (st : h₀.StaysIn s.heap) {R : Result → Shared → Prop}
  {lx : Lx} (ok : lx.ok) (rs : ReadSpec w lx) {sg : List Value} {ns : Nat} {ks : Int} {tl : Tok} {ys : List Str} (hs : StrsAre sg ys) (hz : sg.length ≤ 1000)
  (hn : ∀ q ∈ lx.led8 w sg ns (.int ks tl), s.heap.get? q.1 = some q.2 ∧ h₀.get? q.1 = none)
  (ret : ∀ v h' tk', ReadRes w lx sg s.heap h' v → R (.ok (.ret v)) { s with heap := h', toks := tk' }) :
  codeAny (model PySem.Challenge.rw_ty0032_01.row.prog w) (arA dp un fs gd) (.call (.ref 84) ⟨[.ref lx.x1], []⟩) R s := by
    (refine hideP ?_; intro PP hPP); (obtain ⟨o1, o2, o3, o4, o5, o6, o7, o8, fd, hfd⟩ := ok) <;> (refine hPP ?_; clear hPP; clear PP)
    dsimp only [Lx.led8, lexD, strD, ent] at hn
    k_dflt (refine' enterP _ (binds := [("self", .ref lx.x1)]) ?k1 ?k2 ?k3 ?k4 ?k5 ?k6 ?k7 ?k9 ?kB ?_ ?c2 ?c3 ?c4 ?c5; (case k2 => k_asm); (case k3 => k_asm); (case k4 => k_asm); (case k5 => first | assumption | exact fun _ h => nomatch h); (case k6 => k_is); (case k7 => k_is); (case k1 => (first | exact lim0 hdp | (show dp < recursionLimit; omega))); (case k9 => first | exact BindsTo.of_eq rfl | exact binds_K (by k_in) rfl (by k_is) rfl rfl rfl | exact kp_binds (by exact Frag.In.keeps (by assumption) (by assumption)) (fun _ => rfl)); (case c5 => decide); (case kB => exact locs rfl); (case c2 => exact rfl); (case c3 => exact rfl); (case c4 => exact rfl); k_whole; intro g' L' h' tkE F' N' X' T' lt' kp' fr' st'; (try dsimp only); (try k_fold))
    (repeat' (first | (k_unfold; (try dsimp only)) | row_room_at HE | (k_end; wrow_close) | ((with_reducible show wpAny _ _ (call (Value.ref (Lx.f _)) _) _ _ _); k_here; refine halt ?_) | row_room_at HB | (dsimp only; (first | ((with_reducible show wpAny _ _ (call (Value.ref (Lx.f _)) _) _ _ _); k_here; refine halt ?_) | walk1 | row_room_at HE)) | (leave1; walk_say "STEP leave1"; try dsimp only)))
    (with_reducible rename Fr _ _ _ _ => F1)
    (with_reducible rename News _ _ _ _ => N1)
    refine callWith_F (N1 (lx.f, lx.fo) (by k_mem)).1 hfd ?_
    (repeat' (first | (k_unfold; (try dsimp only)) | row_room_at HE | (k_end; wrow_close) | ((with_reducible show wpAny _ _ (call (Value.ref (Lx.f _)) _) _ _ _); k_here; refine halt ?_) | row_room_at HB | (dsimp only; (first | ((with_reducible show wpAny _ _ (call (Value.ref (Lx.f _)) _) _ _ _); k_here; refine halt ?_) | walk1 | row_room_at HE)) | (leave1; walk_say "STEP leave1"; try dsimp only)))
    · exact (N1 (lx.f, lx.fo) (by k_mem)).1
    refine go ?_
    refine' rs ?ra ?rb X' T' ?rst sg ns _ ?rhn hz ?_
    (case ra => (first | exact lim2 hdp rfl | exact lim1 hdp rfl | exact lim2 hun rfl | exact lim1 hun rfl | exact lim0 hdp | exact lim0 hun | exact lim3 hdp rfl | exact lim3 hun rfl | ((try dsimp only [arA, Around.deeper]); omega)))
    (case rb => (first | exact lim2 hdp rfl | exact lim1 hdp rfl | exact lim2 hun rfl | exact lim1 hun rfl | exact lim0 hdp | exact lim0 hun | exact lim3 hdp rfl | exact lim3 hun rfl | ((try dsimp only [arA, Around.deeper]); omega)))
    (case rst => exact F1.keep)
    (case rhn => exact hn_of N1 (by kcj_all))
    cases hs with
    | nil =>
      (try dsimp only)
      intro t2 h2 tk2 kp2
      have F2 := fr_kept0 F1 kp2
      have N2 := news_kept0 N1 kp2
      clear F1 N1 kp2
      (repeat' (first | (k_unfold; (try dsimp only)) | row_room_at HE | (k_end; wrow_close) | ((with_reducible show wpAny _ _ (call (Value.ref (Lx.f _)) _) _ _ _); k_here; refine halt ?_) | row_room_at HB | (dsimp only; (first | ((with_reducible show wpAny _ _ (call (Value.ref (Lx.f _)) _) _ _ _); k_here; refine halt ?_) | walk1 | row_room_at HE)) | (leave1; walk_say "STEP leave1"; try dsimp only)))
      (try dsimp only)
      (repeat (first | (k_unfold; (try dsimp only)) | row_room_at HE | dsimp only))
      (try dsimp only)
      (with_reducible rename Fr _ _ _ _ => F7)
      (with_reducible rename News _ _ _ _ => N7)
      exact ret _ _ _ ⟨⟨_, rfl⟩, kept_ro kp' F7 N7 hn⟩
    | cons y t2 hs =>
      (try dsimp only)
      intro h2 tk2 n2 kp2 eq2
      have F2 := fr_kept1 F1 N1 (by k_mem) kp2
      have N2 := news_kept1 (o' := listOf _ n2) N1 (by k_upd) kp2 eq2
      clear F1 N1 kp2 eq2
      (repeat' (first | (k_unfold; (try dsimp only)) | row_room_at HE | (k_end; wrow_close) | ((with_reducible show wpAny _ _ (call (Value.ref (Lx.f _)) _) _ _ _); k_here; refine halt ?_) | row_room_at HB | (dsimp only; (first | ((with_reducible show wpAny _ _ (call (Value.ref (Lx.f _)) _) _ _ _); k_here; refine halt ?_) | walk1 | row_room_at HE)) | (leave1; walk_say "STEP leave1"; try dsimp only)))
      all_goals (
        (try dsimp only)
        (repeat (first | (k_unfold; (try dsimp only)) | row_room_at HE | dsimp only))
        (try dsimp only)
        (with_reducible rename Fr _ _ _ _ => F7)
        (with_reducible rename News _ _ _ _ => N7)
        refine ret _ _ _ ⟨rfl, kept_up kp' F7 N7 hn fun q hq => ?_, ⟨_, (N7 (lx.S, _) (by k_mem)).1⟩, _, _, (N7 (lx.d1, _) (by k_mem)).1⟩
        revert hq
        revert q
        exact all_cons (by (first | k_mem | exact Or.inl (by k_mem) | exact Or.inr (by (repeat (first | exact List.Mem.head _ | apply List.Mem.tail))))) (all_cons (by (first | k_mem | exact Or.inl (by k_mem) | exact Or.inr (by (repeat (first | exact List.Mem.head _ | apply List.Mem.tail))))) (all_cons (by (first | k_mem | exact Or.inl (by k_mem) | exact Or.inr (by (repeat (first | exact List.Mem.head _ | apply List.Mem.tail))))) (all_cons (by (first | k_mem | exact Or.inl (by k_mem) | exact Or.inr (by (repeat (first | exact List.Mem.head _ | apply List.Mem.tail))))) (all_cons (by (first | k_mem | exact Or.inl (by k_mem) | exact Or.inr (by (repeat (first | exact List.Mem.head _ | apply List.Mem.tail))))) (all_cons (by (first | k_mem | exact Or.inl (by k_mem) | exact Or.inr (by (repeat (first | exact List.Mem.head _ | apply List.Mem.tail))))) (all_cons (by (first | k_mem | exact Or.inl (by k_mem) | exact Or.inr (by (repeat (first | exact List.Mem.head _ | apply List.Mem.tail))))) (all_cons (by (first | k_mem | exact Or.inl (by k_mem) | exact Or.inr (by (repeat (first | exact List.Mem.head _ | apply List.Mem.tail))))) (all_nil)))))))))
end
theorem led_upd {w : World} {lx : Lx} (ok : lx.ok) {g h h' : Heap} {L : Addr} {m : Str → Option Value} {pre : List (Addr × Obj)} {sg r pb : List Value} {ns ns' np : Nat} {ln ln' : Value} (F : Fr g L h m) (N : News g L h (pre ++ lx.led w sg ns pb np ln)) (hp : ∀ q ∈ pre, @LT.lt Nat _ lx.x1 q.1)
    (k : Kept h h' [lx.S, lx.d1]) (e1 : h'.get? lx.S = some (listOf r.toArray ns')) (e2 : h'.get? lx.d1 = some (lexD w lx.a1 lx.b1 lx.c1 lx.e1 lx.tw1 ln' (.ref lx.x0) lx.p1)) :
    Fr g L h' m ∧ News g L h' (pre ++ lx.led w r ns' pb np ln') := by
  (refine hideP ?_; intro PP hPP); (obtain ⟨o1, o2, o3, o4, o5, o6, o7, o8, _⟩ := ok) <;> (refine hPP ?_; clear hPP; clear PP)
  have hS : ∀ {a : Nat}, a ≠ lx.S → a ≠ lx.d1 → a ∉ [lx.S, lx.d1] := fun h1 h2 h => by
    rcases List.mem_cons.mp h with e | e
    · exact h1 e
    · exact h2 (List.mem_singleton.mp e)
  have r1 := (N (lx.S, listOf sg.toArray ns) (List.mem_append_right _ (.tail _ (.tail _ (.tail _ (.tail _ (.tail _ (.tail _ (.tail _ (.head _))))))))))
  have r2 := (N (lx.d1, lexD w lx.a1 lx.b1 lx.c1 lx.e1 lx.tw1 ln (.ref lx.x0) lx.p1) (List.mem_append_right _ (.tail _ (.head _))))
  refine ⟨fr_kept F k (fun h => ?_) (fun b hb => ?_), news_step F N k fun q hq => ?_⟩
  · rcases List.mem_cons.mp h with e | e
    · exact r1.2.1 e.symm
    · exact r2.2.1 (List.mem_singleton.mp e).symm
  · rcases List.mem_cons.mp hb with rfl | e
    · exact r1.2.2
    · rw [List.mem_singleton.mp e]; exact r2.2.2
  · replace hq := List.mem_append.mp hq
    rcases hq with hq | hq
    · have := hp q hq
      exact .inl ⟨List.mem_append_left _ hq, hS (Nat.ne_of_gt (Nat.lt_trans (Nat.lt_trans (Nat.lt_trans (Nat.lt_trans (Nat.lt_trans (Nat.lt_trans o2 o3) o4) o5) o6) o7) this)) (Nat.ne_of_gt (Nat.lt_trans o7 this))⟩
    · have c2 := Nat.lt_trans o2 o3
      have c3 := Nat.lt_trans c2 o4
      have c4 := Nat.lt_trans c3 o5
      have c5 := Nat.lt_trans c4 o6
      have c6 := Nat.lt_trans c5 o7
      have c7 := Nat.lt_trans c6 o8
      have u5 := Nat.lt_trans o5 o6
      have u4 := Nat.lt_trans o4 u5
      have u3 := Nat.lt_trans o3 u4
      have u2 := Nat.lt_trans o2 u3
      have u1 := Nat.lt_trans o1 u2
      revert hq
      revert q
      refine' all_cons ?_ (all_cons ?_ (all_cons ?_ (all_cons ?_ (all_cons ?_ (all_cons ?_ (all_cons ?_ (all_cons ?_ (all_cons ?_ (all_nil)))))))))
      · exact .inl ⟨List.mem_append_right _ (.head _), hS (Nat.ne_of_gt c6) (Nat.ne_of_gt o7)⟩
      · exact .inr ⟨e2, .inl ⟨_, List.mem_append_right _ (.tail _ (.head _))⟩⟩
      · exact .inl ⟨List.mem_append_right _ (.tail _ (.tail _ (.head _))), hS (Nat.ne_of_gt c7) (Nat.ne_of_gt (Nat.lt_trans o7 o8))⟩
      · exact .inl ⟨List.mem_append_right _ (.tail _ (.tail _ (.tail _ (.head _)))), hS (Nat.ne_of_gt c4) (Nat.ne_of_lt o6)⟩
      · exact .inl ⟨List.mem_append_right _ (.tail _ (.tail _ (.tail _ (.tail _ (.head _))))), hS (Nat.ne_of_gt c3) (Nat.ne_of_lt u5)⟩
      · exact .inl ⟨List.mem_append_right _ (.tail _ (.tail _ (.tail _ (.tail _ (.tail _ (.head _)))))), hS (Nat.ne_of_gt c2) (Nat.ne_of_lt u4)⟩
      · exact .inl ⟨List.mem_append_right _ (.tail _ (.tail _ (.tail _ (.tail _ (.tail _ (.tail _ (.head _))))))), hS (Nat.ne_of_gt o2) (Nat.ne_of_lt u3)⟩
      · exact .inr ⟨e1, .inl ⟨_, List.mem_append_right _ (.tail _ (.tail _ (.tail _ (.tail _ (.tail _ (.tail _ (.tail _ (.head _))))))))⟩⟩
      · exact .inl ⟨List.mem_append_right _ (.tail _ (.tail _ (.tail _ (.tail _ (.tail _ (.tail _ (.tail _ (.tail _ (.head _))))))))), hS (Nat.ne_of_lt o1) (Nat.ne_of_lt u1)⟩

/-! T_getA -/
theorem flushT_getA : True ∧ True := by first | (row_walk; done) | (walk1; done) | exact ⟨trivial, trivial⟩
section
theorem getA_call {w : World} {p : Program} {loose : List Str} {mean : ExcName → Option Value} {mg mb : Str → Option Value} {dp un : Nat} {fs : Option (List Env)} {gd : Option (List Code)} {h₀ : Heap} {s : Shared} {Q E : Value → Shared → Prop}
  (hdp : dp + 2 < recursionLimit) (hun : un + 16 < cLine)
  (X₀ : (hd.heap_39 w.params).In h₀) (T : Top p loose mean mg mb h₀) (st : h₀.StaysIn s.heap)
  {x1 d1 p1 : Addr} {a b c d tw : Tok} {ln fp v : Value} {pb : List Value} {np : Nat} (ho : @LT.lt Nat _ d1 x1 ∧ @LT.lt Nat _ x1 p1) (hz : (v :: pb).length ≤ 1000)
  (hn : ∀ q ∈ [(x1, instObj 101 d1), (d1, lexD w a b c d tw ln fp p1), (p1, listOf (v :: pb).toArray np)], s.heap.get? q.1 = some q.2 ∧ h₀.get? q.1 = none)
  (ret : ∀ h' tk', Kept s.heap h' [p1] → h'.get? p1 = some (listOf pb.toArray (np + 1)) → Q v { s with heap := h', toks := tk' }) :
  wpAny (model PySem.Challenge.rw_ty0032_01.row.prog w) (arA dp un fs gd) (call (.ref 91) [.ref x1]) Q E s := by
    obtain ⟨o1, o2⟩ := ho
    dsimp only [lexD, ent] at hn
    refine wpAny_call ?_
    k_dflt (refine' enterP _ (binds := [("self", .ref x1)]) ?k1 ?k2 ?k3 ?k4 ?k5 ?k6 ?k7 ?k9 ?kB ?_ ?c2 ?c3 ?c4 ?c5; (case k2 => k_asm); (case k3 => k_asm); (case k4 => k_asm); (case k5 => first | assumption | exact fun _ h => nomatch h); (case k6 => k_is); (case k7 => k_is); (case k1 => (first | exact lim0 hdp | (show dp < recursionLimit; omega))); (case k9 => first | exact BindsTo.of_eq rfl | exact binds_K (by k_in) rfl (by k_is) rfl rfl rfl | exact kp_binds (by exact Frag.In.keeps (by assumption) (by assumption)) (fun _ => rfl)); (case c5 => decide); (case kB => exact locs rfl); (case c2 => exact rfl); (case c3 => exact rfl); (case c4 => exact rfl); k_whole; intro g' L' h' tkE F' N' X' T' lt' kp' fr' st'; (try dsimp only); (try k_fold))
    (repeat' (first | (k_unfold; (try dsimp only)) | row_room_at HE | (k_end; wrow_close) | row_room_at HB | (dsimp only; (first | walk1 | row_room_at HE)) | (leave1; walk_say "STEP leave1"; try dsimp only)))
    (with_reducible rename News _ _ _ _ => N1)
    refine truthy_L (its := v :: pb) N1 (.tail _ (.tail _ (.head _))) hz ?_
    dsimp only [List.isEmpty_cons, Bool.not_false]
    (repeat' (first | (k_unfold; (try dsimp only)) | row_room_at HE | (k_end; wrow_close) | row_room_at HB | (dsimp only; (first | walk1 | row_room_at HE)) | (leave1; walk_say "STEP leave1"; try dsimp only)))
    (with_reducible rename Fr _ _ _ _ => F2)
    (with_reducible rename News _ _ _ _ => N2)
    refine kl_popAt (k := 0) (p := []) (q := pb) (y := v) F2 N2 (by decide) seq0 rfl (by k_upd) ?_ ?_
    · refine size_small ?_
      simpa using hz
    intro h3 F3 N3
    dsimp only [List.nil_append] at N3
    (repeat' (first | (k_unfold; (try dsimp only)) | row_room_at HE | (k_end; wrow_close) | row_room_at HB | (dsimp only; (first | walk1 | row_room_at HE)) | (leave1; walk_say "STEP leave1"; try dsimp only)))
    (try dsimp only)
    (repeat (first | (k_unfold; (try dsimp only)) | row_room_at HE | dsimp only))
    (try dsimp only)
    refine ret _ _ (kept_up kp' F3 N3 hn fun q hq => ?_) (N3 _ (.tail _ (.tail _ (.head _)))).1
    revert hq
    revert q
    exact all_cons (by (first | k_mem | exact Or.inl (by k_mem) | exact Or.inr (by (repeat (first | exact List.Mem.head _ | apply List.Mem.tail))))) (all_cons (by (first | k_mem | exact Or.inl (by k_mem) | exact Or.inr (by (repeat (first | exact List.Mem.head _ | apply List.Mem.tail))))) (all_cons (by (first | k_mem | exact Or.inl (by k_mem) | exact Or.inr (by (repeat (first | exact List.Mem.head _ | apply List.Mem.tail))))) (all_nil)))
end

/-! T_next2 -/
theorem flushT_next2 : True ∧ True := by first | (row_walk; done) | (walk1; done) | exact ⟨trivial, trivial⟩
section
variable {w : World} {p : Program} {loose : List Str} {mean : ExcName → Option Value} {mg mb : Str → Option Value} {dp un : Nat} {fs : Option (List Env)} {gd : Option (List Code)} {g : Heap} {L : Addr} {m : Str → Option Value} {s : Shared} {E : Value → Shared → Prop}
theorem read_led {R : Result → Shared → Prop} (hdp : dp + 4 < recursionLimit) (hun : un + 32 < cLine) (X : (hd.heap_39 w.params).In g) (T : Top p loose mean mg mb g)
    {lx : Lx} (ok : lx.ok) (rs : ReadSpec w lx) {pre : List (Addr × Obj)} {sg pb : List Value} {ns np : Nat} {ks : Int} {tl : Tok} {ys : List Str} (hs : StrsAre sg ys) (hz : sg.length ≤ 1000)
    (F : Fr g L s.heap m) (N : News g L s.heap (pre ++ lx.led w sg ns pb np (.int ks tl))) (hp : ∀ q ∈ pre, @LT.lt Nat _ lx.x1 q.1)
    (ret0 : sg = [] → ∀ t h' tk', Fr g L h' m → News g L h' (pre ++ lx.led w sg ns pb np (.int ks tl)) → R (.ok (.ret (.str (Str.ofString "") t))) { s with heap := h', toks := tk' })
    (ret1 : ∀ y t r ys', sg = .str y t :: r → ys = y :: ys' → StrsAre r ys' → ∀ h' tk' ns' ks' tl', Fr g L h' m → News g L h' (pre ++ lx.led w r ns' pb np (.int ks' tl')) → R (.ok (.ret (.str y t))) { s with heap := h', toks := tk' }) :
    codeAny (model PySem.Challenge.rw_ty0032_01.row.prog w) (arA dp un fs gd) (.call (.ref 84) ⟨[.ref lx.x1], []⟩) R s := by
  refine read_code (Q := fun _ _ => True) (E := fun _ _ => True) (ns := ns) (ks := ks) (tl := tl) hdp hun X T (h₀ := g) F.keep ok rs hs hz (fun q hq => ?_) ?_
  · have hm : q ∈ pre ++ lx.led w sg ns pb np (.int ks tl) := by
      refine List.mem_append_right _ ?_
      simp only [List.mem_cons, List.not_mem_nil, or_false] at hq ⊢
      rcases hq with e | e | e | e | e | e | e | e
      · exact .inl e
      · exact .inr (.inl e)
      · exact .inr (.inr (.inr (.inl e)))
      · exact .inr (.inr (.inr (.inr (.inl e))))
      · exact .inr (.inr (.inr (.inr (.inr (.inl e)))))
      · exact .inr (.inr (.inr (.inr (.inr (.inr (.inl e))))))
      · exact .inr (.inr (.inr (.inr (.inr (.inr (.inr (.inl e)))))))
      · exact .inr (.inr (.inr (.inr (.inr (.inr (.inr (.inr e)))))))
    exact ⟨(N q hm).1, (N q hm).2.2⟩
  · intro v h' tk' hr
    cases hs with
    | nil =>
      (refine hideP ?_; intro PP hPP); (obtain ⟨⟨t, rfl⟩, k⟩ := hr) <;> (refine hPP ?_; clear hPP; clear PP)
      exact ret0 rfl t h' tk' (fr_kept0 F k) (news_kept0 N k)
    | cons y t hs' =>
      (refine hideP ?_; intro PP hPP); (obtain ⟨rfl, k, ⟨ns', e1⟩, ks', tl', e2⟩ := hr) <;> (refine hPP ?_; clear hPP; clear PP)
      obtain ⟨F', N'⟩ := led_upd ok F N hp k e1 e2
      exact ret1 _ _ _ _ rfl rfl hs' h' tk' ns' ks' tl' F' N'
theorem fn_of {K : Frag} {h : Heap} {f : Addr} {name qual : Str} {params : Arguments} {body : List Stmt} {scope : Scope} {dV kV doc pm cdv ct oc : Value} {an od : Option Addr} {osl : Array (Option Value)} (X : K.In h)
    (ho : K.lookup f = some ⟨oc, od, .func (fnOf name qual params body scope dV kV doc pm an cdv ct), osl⟩) : ∃ fo fd, h.get? f = some fo ∧ fo.data = .func fd := ⟨_, _, X _ _ ho, rfl⟩
theorem fn84 (X : (hd.heap_39 w.params).In g) : ∃ fo fd, g.get? 84 = some fo ∧ fo.data = .func fd := by
  refine' fn_of X ?h
  (case h => k_is)
theorem next_read {Q : Option Value → Shared → Prop} (hdp : dp + 4 < recursionLimit) (hun : un + 33 < cLine) (X : (hd.heap_39 w.params).In g) (T : Top p loose mean mg mb g)
    {lx : Lx} (ok : lx.ok) (rs : ReadSpec w lx) {I bm : Addr} {tc : Tok} {sg pb : List Value} {ns np : Nat} {ks : Int} {tl : Tok} {ys : List Str} (hs : StrsAre sg ys) (hz : sg.length ≤ 1000) (hne : ∀ y ∈ ys, y ≠ Str.ofString "")
    (F : Fr g L s.heap m) (N : News g L s.heap ((I, ciObj bm tc) :: (bm, methodObj (.ref 84) (.ref lx.x1)) :: lx.led w sg ns pb np (.int ks tl))) (hb : @LT.lt Nat _ lx.x1 bm) (hb2 : @LT.lt Nat _ lx.p1 bm) (hI : @LT.lt Nat _ bm I)
    (ret0 : sg = [] → ∀ h' tk', Fr g L h' m → News g L h' (lx.led w sg ns pb np (.int ks tl)) → Q none { s with heap := h', toks := tk' })
    (ret1 : ∀ y t r ys', sg = .str y t :: r → ys = y :: ys' → StrsAre r ys' → ∀ h' tk' ns' ks' tl', Fr g L h' m → News g L h' ((I, ciObj bm tc) :: (bm, methodObj (.ref 84) (.ref lx.x1)) :: lx.led w r ns' pb np (.int ks' tl')) → Q (some (.str y t)) { s with heap := h', toks := tk' }) :
    wpAny (model PySem.Challenge.rw_ty0032_01.row.prog w) (arA dp un fs gd) (pyNext (.ref I)) Q E s := by
  (refine hideP ?_; intro PP hPP); (obtain ⟨fo, fd, hg, hd'⟩ := fn84 X) <;> (refine hPP ?_; clear hPP; clear PP)
  have hp : ∀ q ∈ [(I, ciObj bm tc), (bm, methodObj (.ref 84) (.ref lx.x1))], @LT.lt Nat _ lx.x1 q.1 := by
    intro q hq
    rcases List.mem_cons.mp hq with rfl | hq
    · exact Nat.lt_trans hb hI
    · rw [List.mem_singleton.mp hq]; exact hb
  refine next_ci rfl (N _ (.head _)).1 (N _ (.tail _ (.head _))).1 (F.keep _ _ hg) hd' ?_
  refine read_led (dp := dp) (un := un + 1) (fs := fs) (gd := gd) (pre := [(I, ciObj bm tc), (bm, methodObj (.ref 84) (.ref lx.x1))]) hdp (by omega) X T ok rs hs hz F N hp ?_ ?_
  · rintro rfl t h' tk' F' N'
    refine ⟨_, t, rfl, (N' _ (.head _)).1, (N' _ (.tail _ (.head _))).1, F'.keep _ _ hg, ?_⟩
    rw [if_pos rfl]
    intro h2 hx
    have hIL := (N' _ (.head _)).2
    refine ret0 rfl h2 tk' ⟨F'.ns.at' fun o e => hx _ o (fun q => hIL.1 q.symm) e, fun b o e => hx b o (fun q => by rw [q, hIL.2] at e; cases e) (F'.keep b o e), F'.above⟩ fun q hq => ?_
    have hm : q ∈ [(I, ciObj bm tc), (bm, methodObj (.ref 84) (.ref lx.x1))] ++ lx.led w [] ns pb np (.int ks tl) := List.mem_append_right _ hq
    refine ⟨hx _ _ (fun e => ?_) (N' q hm).1, (N' q hm).2⟩
    (refine hideP ?_; intro PP hPP); (obtain ⟨o1, o2, o3, o4, o5, o6, o7, o8, _⟩ := ok) <;> (refine hPP ?_; clear hPP; clear PP)
    have b1 := Nat.lt_trans o7 hb
    have b2 := Nat.lt_trans o6 b1
    have b3 := Nat.lt_trans o5 b2
    have b4 := Nat.lt_trans o4 b3
    have b5 := Nat.lt_trans o3 b4
    have b6 := Nat.lt_trans o2 b5
    have b7 := Nat.lt_trans o1 b6
    refine Nat.ne_of_lt (Nat.lt_trans ?_ hI) e
    simp only [List.mem_cons, List.not_mem_nil, or_false] at hq
    rcases hq with rfl | rfl | rfl | rfl | rfl | rfl | rfl | rfl | rfl
    · exact hb
    · exact b1
    · exact hb2
    · exact b2
    · exact b3
    · exact b4
    · exact b5
    · exact b6
    · exact b7
  · intro y t r ys' e1 e2 e3 h' tk' ns' ks' tl' F' N'
    refine ⟨y, t, rfl, (N' _ (.head _)).1, (N' _ (.tail _ (.head _))).1, F'.keep _ _ hg, ?_⟩
    rw [if_neg (hne y (by rw [e2]; exact .head _))]
    exact ret1 y t r ys' e1 e2 e3 h' tk' ns' ks' tl' F' N'
end

/-! T_getB -/
theorem flushT_getB : True ∧ True := by first | (row_walk; done) | (walk1; done) | exact ⟨trivial, trivial⟩
noncomputable def wsF (y : Str) : Bool := !(Builtin.Str.occurrences (Str.ofString "\n\t\r ") y 0 (Str.ofString "\n\t\r ").length 1).isEmpty
noncomputable def bareF : List Str → Str → Option (Str × List Str)
  | [], _ => none
  | y :: r, t => if wsF y then some (t, r) else if y == Str.ofString "\\" then (match r with | [] => none | z :: r' => bareF r' (t ++ z)) else bareF r (t ++ y)
noncomputable def quotF : List Str → Str → Option (Str × List Str)
  | [], _ => none
  | y :: r, t => if y == Str.ofString "\"" then some (t, r) else if y == Str.ofString "\\" then (match r with | [] => none | z :: r' => quotF r' (t ++ z)) else quotF r (t ++ y)
noncomputable def skipF : List Str → Option (Str × List Str)
  | [] => some (Str.ofString "", [])
  | y :: r => if wsF y then skipF r else if y == Str.ofString "\"" then quotF r (Str.ofString "") else if y == Str.ofString "\\" then (match r with | [] => none | z :: r' => bareF r' (Str.ofString "" ++ z)) else bareF r (Str.ofString "" ++ y)
theorem skip_ws {y : Str} {r : List Str} (h : wsF y = true) : skipF (y :: r) = skipF r := by rw [skipF.eq_def]; simp only [h, if_true]
theorem skip_q {y : Str} {r : List Str} (h : wsF y = false) (h2 : (y == Str.ofString "\"") = true) : skipF (y :: r) = quotF r (Str.ofString "") := by rw [skipF.eq_def]; simp only [h, h2, if_true, Bool.false_eq_true, if_false]
theorem skip_b {y : Str} {r : List Str} (h : wsF y = false) (h2 : (y == Str.ofString "\"") = false) (h3 : (y == Str.ofString "\\") = true) : skipF (y :: r) = (match r with | [] => none | z :: r' => bareF r' (Str.ofString "" ++ z)) := by
  rw [skipF.eq_def]; simp only [h, h2, h3, if_true, Bool.false_eq_true, if_false]
theorem skip_o {y : Str} {r : List Str} (h : wsF y = false) (h2 : (y == Str.ofString "\"") = false) (h3 : (y == Str.ofString "\\") = false) : skipF (y :: r) = bareF r (Str.ofString "" ++ y) := by
  rw [skipF.eq_def]; simp only [h, h2, h3, Bool.false_eq_true, if_false]
theorem bare_ws {y t : Str} {r : List Str} (h : wsF y = true) : bareF (y :: r) t = some (t, r) := by rw [bareF.eq_def]; simp only [h, if_true]
theorem bare_b {y t : Str} {r : List Str} (h : wsF y = false) (h3 : (y == Str.ofString "\\") = true) : bareF (y :: r) t = (match r with | [] => none | z :: r' => bareF r' (t ++ z)) := by
  rw [bareF.eq_def]; simp only [h, h3, if_true, Bool.false_eq_true, if_false]
theorem bare_o {y t : Str} {r : List Str} (h : wsF y = false) (h3 : (y == Str.ofString "\\") = false) : bareF (y :: r) t = bareF r (t ++ y) := by
  rw [bareF.eq_def]; simp only [h, h3, Bool.false_eq_true, if_false]
theorem quot_q {y t : Str} {r : List Str} (h : (y == Str.ofString "\"") = true) : quotF (y :: r) t = some (t, r) := by rw [quotF.eq_def]; simp only [h, if_true]
theorem quot_b {y t : Str} {r : List Str} (h : (y == Str.ofString "\"") = false) (h3 : (y == Str.ofString "\\") = true) : quotF (y :: r) t = (match r with | [] => none | z :: r' => quotF r' (t ++ z)) := by
  rw [quotF.eq_def]; simp only [h, h3, if_true, Bool.false_eq_true, if_false]
theorem quot_o {y t : Str} {r : List Str} (h : (y == Str.ofString "\"") = false) (h3 : (y == Str.ofString "\\") = false) : quotF (y :: r) t = quotF r (t ++ y) := by
  rw [quotF.eq_def]; simp only [h, h3, Bool.false_eq_true, if_false]
theorem news_ci {g h : Heap} {L I bm : Addr} {t : Tok} {r : List (Addr × Obj)} (N : News g L h ((I, ciObj bm t) :: r)) : ∃ tb, News g L h ((I, ciObj bm tb) :: r) := ⟨t, N⟩
/-- what holds between the turns of a loop that reads a token: the signs that are left tell the same token -/
noncomputable def TokW (w : World) (lx : Lx) (I bm : Addr) (tb : Tok) (np : Nat) (Fn : List Str → Str → Option (Str × List Str)) (tok : Str) (rest : List Str) (k : Nat) (m : Str → Option Value) (news : List (Addr × Obj)) : Prop :=
  ∃ (sg : List Value) (ns : Nat) (ks : Int) (tl tt : Tok) (ys : List Str) (tv : Str), k = ys.length ∧ StrsAre sg ys ∧ sg.length ≤ 1000 ∧ (∀ y ∈ ys, y.length = 1) ∧ tv.length + ys.length ≤ 1000 ∧ Knows m [("token", .str tv tt), ("fiter", .ref I), ("self", .ref lx.x1)] ∧ Fn ys tv = some (tok, rest) ∧
    news = (I, ciObj bm tb) :: (bm, methodObj (.ref 84) (.ref lx.x1)) :: lx.led w sg ns [] np (.int ks tl)
theorem tokW {w : World} {lx : Lx} {I bm : Addr} {tb : Tok} {np : Nat} {Fn : List Str → Str → Option (Str × List Str)} {tok : Str} {rest : List Str} {m : Str → Option Value} {sg : List Value} {ns : Nat} {ks : Int} {tl tt : Tok} {ys : List Str} {tv : Str}
    (h1 : StrsAre sg ys) (h2 : sg.length ≤ 1000) (h3 : ∀ y ∈ ys, y.length = 1) (h4 : tv.length + ys.length ≤ 1000) (h5 : Knows m [("token", .str tv tt), ("fiter", .ref I), ("self", .ref lx.x1)]) (h6 : Fn ys tv = some (tok, rest)) :
    TokW w lx I bm tb np Fn tok rest ys.length m ((I, ciObj bm tb) :: (bm, methodObj (.ref 84) (.ref lx.x1)) :: lx.led w sg ns [] np (.int ks tl)) := ⟨_, _, _, _, _, _, _, rfl, h1, h2, h3, h4, h5, h6, rfl⟩
noncomputable def SkipW (w : World) (lx : Lx) (I bm : Addr) (tb : Tok) (np : Nat) (tok : Str) (rest : List Str) (k : Nat) (m : Str → Option Value) (news : List (Addr × Obj)) : Prop :=
  ∃ (sg : List Value) (ns : Nat) (ks : Int) (tl tt : Tok) (ys : List Str), k = ys.length ∧ StrsAre sg ys ∧ sg.length ≤ 1000 ∧ (∀ y ∈ ys, y.length = 1) ∧ Knows m [("token", .str (Str.ofString "") tt), ("fiter", .ref I), ("self", .ref lx.x1)] ∧ skipF ys = some (tok, rest) ∧
    news = (I, ciObj bm tb) :: (bm, methodObj (.ref 84) (.ref lx.x1)) :: lx.led w sg ns [] np (.int ks tl)
theorem skipW {w : World} {lx : Lx} {I bm : Addr} {tb : Tok} {np : Nat} {tok : Str} {rest : List Str} {m : Str → Option Value} {sg : List Value} {ns : Nat} {ks : Int} {tl tt : Tok} {ys : List Str}
    (h1 : StrsAre sg ys) (h2 : sg.length ≤ 1000) (h3 : ∀ y ∈ ys, y.length = 1) (h5 : Knows m [("token", .str (Str.ofString "") tt), ("fiter", .ref I), ("self", .ref lx.x1)]) (h6 : skipF ys = some (tok, rest)) :
    SkipW w lx I bm tb np tok rest ys.length m ((I, ciObj bm tb) :: (bm, methodObj (.ref 84) (.ref lx.x1)) :: lx.led w sg ns [] np (.int ks tl)) := ⟨_, _, _, _, _, _, rfl, h1, h2, h3, h5, h6, rfl⟩
/-- the sign that a bare word begins with has been read -/
noncomputable def BareIn (w : World) (lx : Lx) (I bm : Addr) (tb : Tok) (np : Nat) (g : Heap) (L : Addr) (s : Shared) (tok : Str) (rest : List Str) (s' : Shared) : Prop :=
  ∃ (z : Str) (tz tt : Tok) (sg : List Value) (ns : Nat) (ks : Int) (tl : Tok) (ys : List Str) (h : Heap) (tk : Nat) (m : Str → Option Value), s' = { s with heap := h, toks := tk } ∧ z.length = 1 ∧ StrsAre sg ys ∧ sg.length ≤ 1000 ∧ (∀ y ∈ ys, y.length = 1) ∧ (Str.ofString "" ++ z).length + ys.length ≤ 1000 ∧
    Knows m [("ch", .str z tz), ("token", .str (Str.ofString "") tt), ("fiter", .ref I), ("self", .ref lx.x1)] ∧ bareF ys (Str.ofString "" ++ z) = some (tok, rest) ∧ Fr g L h m ∧ News g L h ((I, ciObj bm tb) :: (bm, methodObj (.ref 84) (.ref lx.x1)) :: lx.led w sg ns [] np (.int ks tl))
theorem bareIn {w : World} {lx : Lx} {I bm : Addr} {tb : Tok} {np : Nat} {g : Heap} {L : Addr} {s : Shared} {tok : Str} {rest : List Str} {z : Str} {tz tt : Tok} {sg : List Value} {ns : Nat} {ks : Int} {tl : Tok} {ys : List Str} {h : Heap} {tk : Nat} {m : Str → Option Value}
    (h0 : z.length = 1) (h1 : StrsAre sg ys) (h2 : sg.length ≤ 1000) (h3 : ∀ y ∈ ys, y.length = 1) (h4 : (Str.ofString "" ++ z).length + ys.length ≤ 1000) (h5 : Knows m [("ch", .str z tz), ("token", .str (Str.ofString "") tt), ("fiter", .ref I), ("self", .ref lx.x1)]) (h6 : bareF ys (Str.ofString "" ++ z) = some (tok, rest))
    (F : Fr g L h m) (N : News g L h ((I, ciObj bm tb) :: (bm, methodObj (.ref 84) (.ref lx.x1)) :: lx.led w sg ns [] np (.int ks tl))) : BareIn w lx I bm tb np g L s tok rest { s with heap := h, toks := tk } := ⟨_, _, _, _, _, _, _, _, _, _, _, rfl, h0, h1, h2, h3, h4, h5, h6, F, N⟩
theorem wEndC {g : Heap} {L : Addr} {s : Shared} {Q : Flow → Shared → Prop} {J : Nat → (Str → Option Value) → List (Addr × Obj) → Prop} {k : Nat} {h : Heap} {tk : Nat} {m : Str → Option Value} {news : List (Addr × Obj)} (F : Fr g L h m) (N : News g L h news) (k' : Nat) (hk : k' < k) (j : J k' m news) :
    WPost g L s J k Q .cont { s with heap := h, toks := tk } := ⟨k', h, tk, m, news, hk, rfl, F, N, j⟩
theorem join_cons {M : Model} {A : Around} {E : Value → Shared → Prop} {s : Shared} {env : Env} {st : Stmt} {rest : List Stmt} {Q : Flow → Shared → Prop} (P : Shared → Prop)
    (h1 : ∀ Qj : Flow → Shared → Prop, (∀ s', P s' → Qj .next s') → wpAny M A (exec st env) Qj E s) (h2 : ∀ s', P s' → wpAny M A (execs rest env) Q E s') : wpAny M A (execs (st :: rest) env) Q E s :=
  wpAny_execs_cons (h1 _ fun s' p => h2 s' p)
section
theorem getB_call {w : World} {p : Program} {loose : List Str} {mean : ExcName → Option Value} {mg mb : Str → Option Value} {dp un : Nat} {fs : Option (List Env)} {gd : Option (List Code)} {h₀ : Heap} {s : Shared} {Q E : Value → Shared → Prop}
  (hdp : dp + 8 < recursionLimit) (hun : un + 64 < cLine)
  (X₀ : (hd.heap_39 w.params).In h₀) (T : Top p loose mean mg mb h₀) (st : h₀.StaysIn s.heap)
  {lx : Lx} (ok : lx.ok) (rs : ReadSpec w lx) {sg : List Value} {ns np : Nat} {ks : Int} {tl : Tok} {ys rest : List Str} {tok : Str} (hs : StrsAre sg ys) (hz : sg.length ≤ 1000) (h1 : ∀ y ∈ ys, y.length = 1) (hlex : skipF ys = some (tok, rest))
  (hn : ∀ q ∈ lx.led w sg ns [] np (.int ks tl), s.heap.get? q.1 = some q.2 ∧ h₀.get? q.1 = none)
  (ret : ∀ t h' tk' sg' ns' ks' tl', StrsAre sg' rest → Kept s.heap h' [lx.S, lx.d1] → h'.get? lx.S = some (listOf sg'.toArray ns') → h'.get? lx.d1 = some (lexD w lx.a1 lx.b1 lx.c1 lx.e1 lx.tw1 (.int ks' tl') (.ref lx.x0) lx.p1) →
    Q (.str tok t) { s with heap := h', toks := tk' }) :
  wpAny (model PySem.Challenge.rw_ty0032_01.row.prog w) (arA dp un fs gd) (call (.ref 91) [.ref lx.x1]) Q E s := by
    have ok' := ok
    (refine hideP ?_; intro PP hPP); (obtain ⟨o1, o2, o3, o4, o5, o6, o7, o8, fd, hfd⟩ := ok') <;> (refine hPP ?_; clear hPP; clear PP)
    dsimp only [Lx.led, lexD, strD, ent] at hn
    refine wpAny_call ?_
    k_dflt (refine' enterP _ (binds := [("self", .ref lx.x1)]) ?k1 ?k2 ?k3 ?k4 ?k5 ?k6 ?k7 ?k9 ?kB ?_ ?c2 ?c3 ?c4 ?c5; (case k2 => k_asm); (case k3 => k_asm); (case k4 => k_asm); (case k5 => first | assumption | exact fun _ h => nomatch h); (case k6 => k_is); (case k7 => k_is); (case k1 => (first | exact lim0 hdp | (show dp < recursionLimit; omega))); (case k9 => first | exact BindsTo.of_eq rfl | exact binds_K (by k_in) rfl (by k_is) rfl rfl rfl | exact kp_binds (by exact Frag.In.keeps (by assumption) (by assumption)) (fun _ => rfl)); (case c5 => decide); (case kB => exact locs rfl); (case c2 => exact rfl); (case c3 => exact rfl); (case c4 => exact rfl); k_whole; intro g' L' h' tkE F' N' X' T' lt' kp' fr' st'; (try dsimp only); (try k_fold))
    have hfin : ∀ t h' tk' sg' ns' ks' tl' m', StrsAre sg' rest → Fr g' L' h' m' → News g' L' h' (lx.led w sg' ns' [] np (.int ks' tl')) → Q (.str tok t) { s with heap := h', toks := tk' } := by
      intro t h' tk' sg' ns' ks' tl' m' hs' F' N'
      refine ret t h' tk' sg' ns' ks' tl' hs' (kept_up kp' F' N' hn fun q hq => ?_) (N' (lx.S, _) (by k_mem)).1 (N' (lx.d1, _) (by k_mem)).1
      revert hq
      revert q
      exact all_cons (by (first | k_mem | exact Or.inl (by k_mem) | exact Or.inr (by (repeat (first | exact List.Mem.head _ | apply List.Mem.tail))))) (all_cons (by (first | k_mem | exact Or.inl (by k_mem) | exact Or.inr (by (repeat (first | exact List.Mem.head _ | apply List.Mem.tail))))) (all_cons (by (first | k_mem | exact Or.inl (by k_mem) | exact Or.inr (by (repeat (first | exact List.Mem.head _ | apply List.Mem.tail))))) (all_cons (by (first | k_mem | exact Or.inl (by k_mem) | exact Or.inr (by (repeat (first | exact List.Mem.head _ | apply List.Mem.tail))))) (all_cons (by (first | k_mem | exact Or.inl (by k_mem) | exact Or.inr (by (repeat (first | exact List.Mem.head _ | apply List.Mem.tail))))) (all_cons (by (first | k_mem | exact Or.inl (by k_mem) | exact Or.inr (by (repeat (first | exact List.Mem.head _ | apply List.Mem.tail))))) (all_cons (by (first | k_mem | exact Or.inl (by k_mem) | exact Or.inr (by (repeat (first | exact List.Mem.head _ | apply List.Mem.tail))))) (all_cons (by (first | k_mem | exact Or.inl (by k_mem) | exact Or.inr (by (repeat (first | exact List.Mem.head _ | apply List.Mem.tail))))) (all_cons (by (first | k_mem | exact Or.inl (by k_mem) | exact Or.inr (by (repeat (first | exact List.Mem.head _ | apply List.Mem.tail))))) (all_nil)))))))))
    clear ret hn
    (repeat' (first | (k_unfold; (try dsimp only)) | row_room_at HE | (k_end; wrow_close) | ((with_reducible show wpAny _ _ (call (Value.ref 84) _) _ _ _); k_here; refine halt ?_) | ((with_reducible show wpAny _ _ (pyIter (Value.ref _)) _ _ _); (k_here; (with_reducible show wpAny _ _ (pyIter _) (fun _ _ => ForAt _ _ _ _ _ _ _ _ _ _ _) _ _); refine halt ?_)) | ((with_reducible show wpAny _ _ (exec (Stmt.For _ _ _ _ _) _) _ _ _); k_here; refine halt ?_) | ((with_reducible show wpAny _ _ (call (Value.builtin "iter") _ _) _ _ _); (k_here; (with_reducible show wpAny _ _ (call (Value.builtin "iter") [Value.ref _, Value.str _ _]) _ _ _); k_dflt (refine' iter2_K (by k_asm) (by k_asm) (by k_mem) ?_); intro I h8 F8 N8 lI; (try k_lt lI); (try k_sweep))) | ((with_reducible show wpAny _ _ (execs (Stmt.If _ _ _ _ :: Stmt.AugAssign _ _ _ _ :: Stmt.For _ _ _ _ _ :: _) _) _ _ _); k_here; refine halt ?_) | row_room_at HB | (dsimp only; (first | ((with_reducible show wpAny _ _ (call (Value.ref 84) _) _ _ _); k_here; refine halt ?_) | ((with_reducible show wpAny _ _ (pyIter (Value.ref _)) _ _ _); (k_here; (with_reducible show wpAny _ _ (pyIter _) (fun _ _ => ForAt _ _ _ _ _ _ _ _ _ _ _) _ _); refine halt ?_)) | ((with_reducible show wpAny _ _ (exec (Stmt.For _ _ _ _ _) _) _ _ _); k_here; refine halt ?_) | ((with_reducible show wpAny _ _ (call (Value.builtin "iter") _ _) _ _ _); (k_here; (with_reducible show wpAny _ _ (call (Value.builtin "iter") [Value.ref _, Value.str _ _]) _ _ _); k_dflt (refine' iter2_K (by k_asm) (by k_asm) (by k_mem) ?_); intro I h8 F8 N8 lI; (try k_lt lI); (try k_sweep))) | ((with_reducible show wpAny _ _ (execs (Stmt.If _ _ _ _ :: Stmt.AugAssign _ _ _ _ :: Stmt.For _ _ _ _ _ :: _) _) _ _ _); k_here; refine halt ?_) | walk1 | row_room_at HE)) | (leave1; walk_say "STEP leave1"; try dsimp only)))
    refine go ?_
    refine For_start ?_
    (repeat' (first | (k_unfold; (try dsimp only)) | row_room_at HE | (k_end; wrow_close) | ((with_reducible show wpAny _ _ (call (Value.ref 84) _) _ _ _); k_here; refine halt ?_) | ((with_reducible show wpAny _ _ (pyIter (Value.ref _)) _ _ _); (k_here; (with_reducible show wpAny _ _ (pyIter _) (fun _ _ => ForAt _ _ _ _ _ _ _ _ _ _ _) _ _); refine halt ?_)) | ((with_reducible show wpAny _ _ (exec (Stmt.For _ _ _ _ _) _) _ _ _); k_here; refine halt ?_) | ((with_reducible show wpAny _ _ (call (Value.builtin "iter") _ _) _ _ _); (k_here; (with_reducible show wpAny _ _ (call (Value.builtin "iter") [Value.ref _, Value.str _ _]) _ _ _); k_dflt (refine' iter2_K (by k_asm) (by k_asm) (by k_mem) ?_); intro I h8 F8 N8 lI; (try k_lt lI); (try k_sweep))) | ((with_reducible show wpAny _ _ (execs (Stmt.If _ _ _ _ :: Stmt.AugAssign _ _ _ _ :: Stmt.For _ _ _ _ _ :: _) _) _ _ _); k_here; refine halt ?_) | row_room_at HB | (dsimp only; (first | ((with_reducible show wpAny _ _ (call (Value.ref 84) _) _ _ _); k_here; refine halt ?_) | ((with_reducible show wpAny _ _ (pyIter (Value.ref _)) _ _ _); (k_here; (with_reducible show wpAny _ _ (pyIter _) (fun _ _ => ForAt _ _ _ _ _ _ _ _ _ _ _) _ _); refine halt ?_)) | ((with_reducible show wpAny _ _ (exec (Stmt.For _ _ _ _ _) _) _ _ _); k_here; refine halt ?_) | ((with_reducible show wpAny _ _ (call (Value.builtin "iter") _ _) _ _ _); (k_here; (with_reducible show wpAny _ _ (call (Value.builtin "iter") [Value.ref _, Value.str _ _]) _ _ _); k_dflt (refine' iter2_K (by k_asm) (by k_asm) (by k_mem) ?_); intro I h8 F8 N8 lI; (try k_lt lI); (try k_sweep))) | ((with_reducible show wpAny _ _ (execs (Stmt.If _ _ _ _ :: Stmt.AugAssign _ _ _ _ :: Stmt.For _ _ _ _ _ :: _) _) _ _ _); k_here; refine halt ?_) | walk1 | row_room_at HE)) | (leave1; walk_say "STEP leave1"; try dsimp only)))
    refine go ?_
    (with_reducible rename Fr _ _ _ _ => F1)
    (with_reducible rename News _ _ _ _ => N1)
    rename_i bm _ lb _
    obtain ⟨lI1, _⟩ := lI
    (refine hideP ?_; intro PP hPP); (obtain ⟨lb1, lb2, lb3, _⟩ := lb) <;> (refine hPP ?_; clear hPP; clear PP)
    replace N1 := news_ci N1
    obtain ⟨tb, N1⟩ := N1
    refine iter_ci (N1 _ (.head _)).1 ?_
    refine for_next (SkipW w lx I bm tb np tok rest) F1 N1 (skipW hs hz h1 ⟨rfl, rfl, rfl, trivial⟩ hlex) ?_ PassesOwn.never
    clear F1 N1 hs hz h1 hlex
    intro k m news h tk jz5
    (refine hideP ?_; intro PP hPP); (obtain ⟨sg, ns, ks, tl, tt, ys, rfl, hs, hz, h1, e1, hlex, rfl⟩ := jz5) <;> (refine hPP ?_; clear hPP; clear PP)
    intro F N
    replace F := fr_knows e1 F
    clear e1
    have hne : ∀ y ∈ ys, y ≠ Str.ofString "" := fun y hy e => by have := h1 y hy; rw [e] at this; exact absurd this (by decide)
    refine' next_read ?na ?nb X' T' ok rs hs hz hne F N lb1 lb3 lI1 ?r0 ?r1
    (case na => (first | exact lim2 hdp rfl | exact lim1 hdp rfl | exact lim2 hun rfl | exact lim1 hun rfl | exact lim0 hdp | exact lim0 hun | exact lim3 hdp rfl | exact lim3 hun rfl | ((try dsimp only [arA, Around.deeper]); omega)))
    (case nb => (first | exact lim2 hdp rfl | exact lim1 hdp rfl | exact lim2 hun rfl | exact lim1 hun rfl | exact lim0 hdp | exact lim0 hun | exact lim3 hdp rfl | exact lim3 hun rfl | ((try dsimp only [arA, Around.deeper]); omega)))
    (case r0 =>
      rintro rfl h2 tk2 F2 N2
      cases hs
      rw [skipF.eq_def] at hlex
      cases hlex
      (try dsimp only)
      (repeat' (first | (k_unfold; (try dsimp only)) | row_room_at HE | (k_end; wrow_close) | ((with_reducible show wpAny _ _ (call (Value.ref 84) _) _ _ _); k_here; refine halt ?_) | ((with_reducible show wpAny _ _ (pyIter (Value.ref _)) _ _ _); (k_here; (with_reducible show wpAny _ _ (pyIter _) (fun _ _ => ForAt _ _ _ _ _ _ _ _ _ _ _) _ _); refine halt ?_)) | ((with_reducible show wpAny _ _ (exec (Stmt.For _ _ _ _ _) _) _ _ _); k_here; refine halt ?_) | ((with_reducible show wpAny _ _ (call (Value.builtin "iter") _ _) _ _ _); (k_here; (with_reducible show wpAny _ _ (call (Value.builtin "iter") [Value.ref _, Value.str _ _]) _ _ _); k_dflt (refine' iter2_K (by k_asm) (by k_asm) (by k_mem) ?_); intro I h8 F8 N8 lI; (try k_lt lI); (try k_sweep))) | ((with_reducible show wpAny _ _ (execs (Stmt.If _ _ _ _ :: Stmt.AugAssign _ _ _ _ :: Stmt.For _ _ _ _ _ :: _) _) _ _ _); k_here; refine halt ?_) | row_room_at HB | (dsimp only; (first | ((with_reducible show wpAny _ _ (call (Value.ref 84) _) _ _ _); k_here; refine halt ?_) | ((with_reducible show wpAny _ _ (pyIter (Value.ref _)) _ _ _); (k_here; (with_reducible show wpAny _ _ (pyIter _) (fun _ _ => ForAt _ _ _ _ _ _ _ _ _ _ _) _ _); refine halt ?_)) | ((with_reducible show wpAny _ _ (exec (Stmt.For _ _ _ _ _) _) _ _ _); k_here; refine halt ?_) | ((with_reducible show wpAny _ _ (call (Value.builtin "iter") _ _) _ _ _); (k_here; (with_reducible show wpAny _ _ (call (Value.builtin "iter") [Value.ref _, Value.str _ _]) _ _ _); k_dflt (refine' iter2_K (by k_asm) (by k_asm) (by k_mem) ?_); intro I h8 F8 N8 lI; (try k_lt lI); (try k_sweep))) | ((with_reducible show wpAny _ _ (execs (Stmt.If _ _ _ _ :: Stmt.AugAssign _ _ _ _ :: Stmt.For _ _ _ _ _ :: _) _) _ _ _); k_here; refine halt ?_) | walk1 | row_room_at HE)) | (leave1; walk_say "STEP leave1"; try dsimp only)))
      (try dsimp only)
      (repeat (first | (k_unfold; (try dsimp only)) | row_room_at HE | dsimp only))
      (try dsimp only)
      exact hfin _ _ _ [] _ _ _ _ .nil F2 N2)
    (case r1 =>
      rintro y t r ys' rfl rfl hs' h2 tk2 ns2 ks2 tl2 F2 N2
      clear F N hne
      have hz' : r.length ≤ 1000 := Nat.le_trans (Nat.le_succ _) hz
      have hyl : ys'.length ≤ 999 := by rw [← hs'.len_eq]; exact Nat.le_of_succ_le_succ hz
      have hl := h1 y (.head _)
      have h1' : ∀ y ∈ ys', y.length = 1 := fun y hy => h1 y (.tail _ hy)
      clear hs hz h1
      dsimp only [Lx.led, lexD, strD, ent] at N2
      (try dsimp only)
      cases hws : (Builtin.Str.occurrences (Str.ofString "\n\t\r ") y 0 (Str.ofString "\n\t\r ").length 1).isEmpty with
      | false =>
        rw [skip_ws (by unfold wsF; rw [hws]; rfl)] at hlex
        (repeat' (first | (k_unfold; (try dsimp only)) | row_room_at HE | (k_end; wrow_close) | ((with_reducible show wpAny _ _ (call (Value.ref 84) _) _ _ _); k_here; refine halt ?_) | ((with_reducible show wpAny _ _ (pyIter (Value.ref _)) _ _ _); (k_here; (with_reducible show wpAny _ _ (pyIter _) (fun _ _ => ForAt _ _ _ _ _ _ _ _ _ _ _) _ _); refine halt ?_)) | ((with_reducible show wpAny _ _ (exec (Stmt.For _ _ _ _ _) _) _ _ _); k_here; refine halt ?_) | ((with_reducible show wpAny _ _ (call (Value.builtin "iter") _ _) _ _ _); (k_here; (with_reducible show wpAny _ _ (call (Value.builtin "iter") [Value.ref _, Value.str _ _]) _ _ _); k_dflt (refine' iter2_K (by k_asm) (by k_asm) (by k_mem) ?_); intro I h8 F8 N8 lI; (try k_lt lI); (try k_sweep))) | ((with_reducible show wpAny _ _ (execs (Stmt.If _ _ _ _ :: Stmt.AugAssign _ _ _ _ :: Stmt.For _ _ _ _ _ :: _) _) _ _ _); k_here; refine halt ?_) | row_room_at HB | (dsimp only; (first | ((with_reducible show wpAny _ _ (call (Value.ref 84) _) _ _ _); k_here; refine halt ?_) | ((with_reducible show wpAny _ _ (pyIter (Value.ref _)) _ _ _); (k_here; (with_reducible show wpAny _ _ (pyIter _) (fun _ _ => ForAt _ _ _ _ _ _ _ _ _ _ _) _ _); refine halt ?_)) | ((with_reducible show wpAny _ _ (exec (Stmt.For _ _ _ _ _) _) _ _ _); k_here; refine halt ?_) | ((with_reducible show wpAny _ _ (call (Value.builtin "iter") _ _) _ _ _); (k_here; (with_reducible show wpAny _ _ (call (Value.builtin "iter") [Value.ref _, Value.str _ _]) _ _ _); k_dflt (refine' iter2_K (by k_asm) (by k_asm) (by k_mem) ?_); intro I h8 F8 N8 lI; (try k_lt lI); (try k_sweep))) | ((with_reducible show wpAny _ _ (execs (Stmt.If _ _ _ _ :: Stmt.AugAssign _ _ _ _ :: Stmt.For _ _ _ _ _ :: _) _) _ _ _); k_here; refine halt ?_) | walk1 | row_room_at HE)) | (leave1; walk_say "STEP leave1"; try dsimp only)))
        (with_reducible rename Fr _ _ _ _ => F7)
        (with_reducible rename News _ _ _ _ => N7)
        (try dsimp only)
        exact wEndC F7 N7 _ (Nat.lt_succ_self _) (skipW hs' hz' h1' ⟨rfl, rfl, rfl, trivial⟩ hlex)
      | true =>
        have hw : wsF y = false := by unfold wsF; rw [hws]; rfl
        cases hq : (y == Str.ofString "\"") with
        | true =>
          rw [skip_q hw hq] at hlex
          have htl : (Str.ofString "").length + ys'.length ≤ 1000 := by
            have : (Str.ofString "").length = 0 := by decide
            omega
          (repeat' (first | (k_unfold; (try dsimp only)) | row_room_at HE | (k_end; wrow_close) | ((with_reducible show wpAny _ _ (call (Value.ref 84) _) _ _ _); k_here; refine halt ?_) | ((with_reducible show wpAny _ _ (pyIter (Value.ref _)) _ _ _); (k_here; (with_reducible show wpAny _ _ (pyIter _) (fun _ _ => ForAt _ _ _ _ _ _ _ _ _ _ _) _ _); refine halt ?_)) | ((with_reducible show wpAny _ _ (exec (Stmt.For _ _ _ _ _) _) _ _ _); k_here; refine halt ?_) | ((with_reducible show wpAny _ _ (call (Value.builtin "iter") _ _) _ _ _); (k_here; (with_reducible show wpAny _ _ (call (Value.builtin "iter") [Value.ref _, Value.str _ _]) _ _ _); k_dflt (refine' iter2_K (by k_asm) (by k_asm) (by k_mem) ?_); intro I h8 F8 N8 lI; (try k_lt lI); (try k_sweep))) | ((with_reducible show wpAny _ _ (execs (Stmt.If _ _ _ _ :: Stmt.AugAssign _ _ _ _ :: Stmt.For _ _ _ _ _ :: _) _) _ _ _); k_here; refine halt ?_) | row_room_at HB | (dsimp only; (first | ((with_reducible show wpAny _ _ (call (Value.ref 84) _) _ _ _); k_here; refine halt ?_) | ((with_reducible show wpAny _ _ (pyIter (Value.ref _)) _ _ _); (k_here; (with_reducible show wpAny _ _ (pyIter _) (fun _ _ => ForAt _ _ _ _ _ _ _ _ _ _ _) _ _); refine halt ?_)) | ((with_reducible show wpAny _ _ (exec (Stmt.For _ _ _ _ _) _) _ _ _); k_here; refine halt ?_) | ((with_reducible show wpAny _ _ (call (Value.builtin "iter") _ _) _ _ _); (k_here; (with_reducible show wpAny _ _ (call (Value.builtin "iter") [Value.ref _, Value.str _ _]) _ _ _); k_dflt (refine' iter2_K (by k_asm) (by k_asm) (by k_mem) ?_); intro I h8 F8 N8 lI; (try k_lt lI); (try k_sweep))) | ((with_reducible show wpAny _ _ (execs (Stmt.If _ _ _ _ :: Stmt.AugAssign _ _ _ _ :: Stmt.For _ _ _ _ _ :: _) _) _ _ _); k_here; refine halt ?_) | walk1 | row_room_at HE)) | (leave1; walk_say "STEP leave1"; try dsimp only)))
          refine go ?_
          refine For_start ?_
          (repeat' (first | (k_unfold; (try dsimp only)) | row_room_at HE | (k_end; wrow_close) | ((with_reducible show wpAny _ _ (call (Value.ref 84) _) _ _ _); k_here; refine halt ?_) | ((with_reducible show wpAny _ _ (pyIter (Value.ref _)) _ _ _); (k_here; (with_reducible show wpAny _ _ (pyIter _) (fun _ _ => ForAt _ _ _ _ _ _ _ _ _ _ _) _ _); refine halt ?_)) | ((with_reducible show wpAny _ _ (exec (Stmt.For _ _ _ _ _) _) _ _ _); k_here; refine halt ?_) | ((with_reducible show wpAny _ _ (call (Value.builtin "iter") _ _) _ _ _); (k_here; (with_reducible show wpAny _ _ (call (Value.builtin "iter") [Value.ref _, Value.str _ _]) _ _ _); k_dflt (refine' iter2_K (by k_asm) (by k_asm) (by k_mem) ?_); intro I h8 F8 N8 lI; (try k_lt lI); (try k_sweep))) | ((with_reducible show wpAny _ _ (execs (Stmt.If _ _ _ _ :: Stmt.AugAssign _ _ _ _ :: Stmt.For _ _ _ _ _ :: _) _) _ _ _); k_here; refine halt ?_) | row_room_at HB | (dsimp only; (first | ((with_reducible show wpAny _ _ (call (Value.ref 84) _) _ _ _); k_here; refine halt ?_) | ((with_reducible show wpAny _ _ (pyIter (Value.ref _)) _ _ _); (k_here; (with_reducible show wpAny _ _ (pyIter _) (fun _ _ => ForAt _ _ _ _ _ _ _ _ _ _ _) _ _); refine halt ?_)) | ((with_reducible show wpAny _ _ (exec (Stmt.For _ _ _ _ _) _) _ _ _); k_here; refine halt ?_) | ((with_reducible show wpAny _ _ (call (Value.builtin "iter") _ _) _ _ _); (k_here; (with_reducible show wpAny _ _ (call (Value.builtin "iter") [Value.ref _, Value.str _ _]) _ _ _); k_dflt (refine' iter2_K (by k_asm) (by k_asm) (by k_mem) ?_); intro I h8 F8 N8 lI; (try k_lt lI); (try k_sweep))) | ((with_reducible show wpAny _ _ (execs (Stmt.If _ _ _ _ :: Stmt.AugAssign _ _ _ _ :: Stmt.For _ _ _ _ _ :: _) _) _ _ _); k_here; refine halt ?_) | walk1 | row_room_at HE)) | (leave1; walk_say "STEP leave1"; try dsimp only)))
          refine go ?_
          (with_reducible rename Fr _ _ _ _ => F5)
          (with_reducible rename News _ _ _ _ => N5)
          refine iter_ci (N5 _ (.head _)).1 ?_
          refine for_next (TokW w lx I bm tb np quotF tok rest) F5 N5 (tokW (ns := ns2) (ks := ks2) (tl := tl2) hs' hz' h1' htl ⟨rfl, rfl, rfl, trivial⟩ hlex) ?_ PassesOwn.never
          clear F5 N5 htl hlex
          intro k m news h tk jz5
          (refine hideP ?_; intro PP hPP); (obtain ⟨sg, ns, ks, tl, tt, ys, tv, rfl, hs, hz, h1, htl, e1, hlex, rfl⟩ := jz5) <;> (refine hPP ?_; clear hPP; clear PP)
          intro F N
          replace F := fr_knows e1 F
          clear e1
          have hne : ∀ y ∈ ys, y ≠ Str.ofString "" := fun y hy e => by have := h1 y hy; rw [e] at this; exact absurd this (by decide)
          refine' next_read ?naq0 ?nbq0 X' T' ok rs hs hz hne F N lb1 lb3 lI1 ?r0q0 ?r1q0
          (case naq0 => (first | exact lim2 hdp rfl | exact lim1 hdp rfl | exact lim2 hun rfl | exact lim1 hun rfl | exact lim0 hdp | exact lim0 hun | exact lim3 hdp rfl | exact lim3 hun rfl | ((try dsimp only [arA, Around.deeper]); omega)))
          (case nbq0 => (first | exact lim2 hdp rfl | exact lim1 hdp rfl | exact lim2 hun rfl | exact lim1 hun rfl | exact lim0 hdp | exact lim0 hun | exact lim3 hdp rfl | exact lim3 hun rfl | ((try dsimp only [arA, Around.deeper]); omega)))
          (case r0q0 =>
            rintro rfl h2 tk2 F2 N2
            cases hs
            rw [quotF.eq_def] at hlex
            cases hlex)
          (case r1q0 =>
            rintro y t r ys' rfl rfl hs' h2 tk2 ns2 ks2 tl2 F2 N2
            clear F N hne
            have hz' : r.length ≤ 1000 := Nat.le_trans (Nat.le_succ _) hz
            have hl := h1 y (.head _)
            have h1' : ∀ y ∈ ys', y.length = 1 := fun y hy => h1 y (.tail _ hy)
            have htv : tv.length ≤ 1000 := Nat.le_trans (Nat.le_add_right _ _) htl
            clear hs hz h1
            dsimp only [Lx.led, lexD, strD, ent] at N2
            (try dsimp only)
            cases hq : (y == Str.ofString "\"") with
            | true =>
              rw [quot_q hq] at hlex
              cases hlex
              (repeat' (first | (k_unfold; (try dsimp only)) | row_room_at HE | (k_end; wrow_close) | ((with_reducible show wpAny _ _ (call (Value.ref 84) _) _ _ _); k_here; refine halt ?_) | ((with_reducible show wpAny _ _ (pyIter (Value.ref _)) _ _ _); (k_here; (with_reducible show wpAny _ _ (pyIter _) (fun _ _ => ForAt _ _ _ _ _ _ _ _ _ _ _) _ _); refine halt ?_)) | ((with_reducible show wpAny _ _ (exec (Stmt.For _ _ _ _ _) _) _ _ _); k_here; refine halt ?_) | ((with_reducible show wpAny _ _ (call (Value.builtin "iter") _ _) _ _ _); (k_here; (with_reducible show wpAny _ _ (call (Value.builtin "iter") [Value.ref _, Value.str _ _]) _ _ _); k_dflt (refine' iter2_K (by k_asm) (by k_asm) (by k_mem) ?_); intro I h8 F8 N8 lI; (try k_lt lI); (try k_sweep))) | ((with_reducible show wpAny _ _ (execs (Stmt.If _ _ _ _ :: Stmt.AugAssign _ _ _ _ :: Stmt.For _ _ _ _ _ :: _) _) _ _ _); k_here; refine halt ?_) | row_room_at HB | (dsimp only; (first | ((with_reducible show wpAny _ _ (call (Value.ref 84) _) _ _ _); k_here; refine halt ?_) | ((with_reducible show wpAny _ _ (pyIter (Value.ref _)) _ _ _); (k_here; (with_reducible show wpAny _ _ (pyIter _) (fun _ _ => ForAt _ _ _ _ _ _ _ _ _ _ _) _ _); refine halt ?_)) | ((with_reducible show wpAny _ _ (exec (Stmt.For _ _ _ _ _) _) _ _ _); k_here; refine halt ?_) | ((with_reducible show wpAny _ _ (call (Value.builtin "iter") _ _) _ _ _); (k_here; (with_reducible show wpAny _ _ (call (Value.builtin "iter") [Value.ref _, Value.str _ _]) _ _ _); k_dflt (refine' iter2_K (by k_asm) (by k_asm) (by k_mem) ?_); intro I h8 F8 N8 lI; (try k_lt lI); (try k_sweep))) | ((with_reducible show wpAny _ _ (execs (Stmt.If _ _ _ _ :: Stmt.AugAssign _ _ _ _ :: Stmt.For _ _ _ _ _ :: _) _) _ _ _); k_here; refine halt ?_) | walk1 | row_room_at HE)) | (leave1; walk_say "STEP leave1"; try dsimp only)))
              (with_reducible rename Fr _ _ _ _ => F7)
              (with_reducible rename News _ _ _ _ => N7)
              (try dsimp only)
              (try dsimp only [WPost])
              (repeat (first | (k_unfold; (try dsimp only)) | row_room_at HE | dsimp only))
              (try dsimp only)
              exact hfin _ _ _ r ns2 ks2 tl2 _ hs' F7 (fun q hq => N7 q (.tail _ (.tail _ hq)))
            | false =>
              have hw := hq
              cases hb : (y == Str.ofString "\\") with
              | true =>
                rw [quot_b hw hb] at hlex
                (repeat' (first | (k_unfold; (try dsimp only)) | row_room_at HE | (k_end; wrow_close) | ((with_reducible show wpAny _ _ (call (Value.ref 84) _) _ _ _); k_here; refine halt ?_) | ((with_reducible show wpAny _ _ (pyIter (Value.ref _)) _ _ _); (k_here; (with_reducible show wpAny _ _ (pyIter _) (fun _ _ => ForAt _ _ _ _ _ _ _ _ _ _ _) _ _); refine halt ?_)) | ((with_reducible show wpAny _ _ (exec (Stmt.For _ _ _ _ _) _) _ _ _); k_here; refine halt ?_) | ((with_reducible show wpAny _ _ (call (Value.builtin "iter") _ _) _ _ _); (k_here; (with_reducible show wpAny _ _ (call (Value.builtin "iter") [Value.ref _, Value.str _ _]) _ _ _); k_dflt (refine' iter2_K (by k_asm) (by k_asm) (by k_mem) ?_); intro I h8 F8 N8 lI; (try k_lt lI); (try k_sweep))) | ((with_reducible show wpAny _ _ (execs (Stmt.If _ _ _ _ :: Stmt.AugAssign _ _ _ _ :: Stmt.For _ _ _ _ _ :: _) _) _ _ _); k_here; refine halt ?_) | row_room_at HB | (dsimp only; (first | ((with_reducible show wpAny _ _ (call (Value.ref 84) _) _ _ _); k_here; refine halt ?_) | ((with_reducible show wpAny _ _ (pyIter (Value.ref _)) _ _ _); (k_here; (with_reducible show wpAny _ _ (pyIter _) (fun _ _ => ForAt _ _ _ _ _ _ _ _ _ _ _) _ _); refine halt ?_)) | ((with_reducible show wpAny _ _ (exec (Stmt.For _ _ _ _ _) _) _ _ _); k_here; refine halt ?_) | ((with_reducible show wpAny _ _ (call (Value.builtin "iter") _ _) _ _ _); (k_here; (with_reducible show wpAny _ _ (call (Value.builtin "iter") [Value.ref _, Value.str _ _]) _ _ _); k_dflt (refine' iter2_K (by k_asm) (by k_asm) (by k_mem) ?_); intro I h8 F8 N8 lI; (try k_lt lI); (try k_sweep))) | ((with_reducible show wpAny _ _ (execs (Stmt.If _ _ _ _ :: Stmt.AugAssign _ _ _ _ :: Stmt.For _ _ _ _ _ :: _) _) _ _ _); k_here; refine halt ?_) | walk1 | row_room_at HE)) | (leave1; walk_say "STEP leave1"; try dsimp only)))
                refine go ?_
                (with_reducible rename Fr _ _ _ _ => F3)
                (with_reducible rename News _ _ _ _ => N3)
                refine' wpAny_call (read_led (pre := [(I, ciObj bm _), (bm, methodObj (.ref 84) (.ref lx.x1))]) ?rdpq0 ?runq0 X' T' ok rs hs' hz' ?rFq0 ?rNq0 ?rpq0 ?rr0q0 ?rr1q0)
                (case rFq0 => exact F3)
                (case rNq0 => exact N3)
                (case rdpq0 => (first | exact lim2 hdp rfl | exact lim1 hdp rfl | exact lim2 hun rfl | exact lim1 hun rfl | exact lim0 hdp | exact lim0 hun | exact lim3 hdp rfl | exact lim3 hun rfl | ((try dsimp only [arA, Around.deeper]); omega)))
                (case runq0 => (first | exact lim2 hdp rfl | exact lim1 hdp rfl | exact lim2 hun rfl | exact lim1 hun rfl | exact lim0 hdp | exact lim0 hun | exact lim3 hdp rfl | exact lim3 hun rfl | ((try dsimp only [arA, Around.deeper]); omega)))
                (case rpq0 =>
                  intro q hq
                  rcases List.mem_cons.mp hq with rfl | hq
                  · exact Nat.lt_trans lb1 lI1
                  · rw [List.mem_singleton.mp hq]; exact lb1)
                (case rr0q0 =>
                  rintro rfl
                  cases hs'
                  cases hlex)
                (case rr1q0 =>
                  rintro z t4 r4 ys4 rfl rfl hs4 h4 tk4 ns4 ks4 tl4 F4 N4
                  clear F3 N3
                  dsimp only at hlex
                  have hl4 := h1' z (.head _)
                  have h14 : ∀ y ∈ ys4, y.length = 1 := fun y hy => h1' y (.tail _ hy)
                  have hz4 : r4.length ≤ 1000 := Nat.le_trans (Nat.le_succ _) hz'
                  have htl4 : (tv ++ z).length + ys4.length ≤ 1000 := by
                    rw [Str.length_append, hl4]
                    simp only [List.length_cons] at htl
                    omega
                  dsimp only [Lx.led, lexD, strD, ent, List.cons_append, List.nil_append] at N4
                  (try dsimp only)
                  (repeat' (first | (k_unfold; (try dsimp only)) | row_room_at HE | (k_end; wrow_close) | ((with_reducible show wpAny _ _ (call (Value.ref 84) _) _ _ _); k_here; refine halt ?_) | ((with_reducible show wpAny _ _ (pyIter (Value.ref _)) _ _ _); (k_here; (with_reducible show wpAny _ _ (pyIter _) (fun _ _ => ForAt _ _ _ _ _ _ _ _ _ _ _) _ _); refine halt ?_)) | ((with_reducible show wpAny _ _ (exec (Stmt.For _ _ _ _ _) _) _ _ _); k_here; refine halt ?_) | ((with_reducible show wpAny _ _ (call (Value.builtin "iter") _ _) _ _ _); (k_here; (with_reducible show wpAny _ _ (call (Value.builtin "iter") [Value.ref _, Value.str _ _]) _ _ _); k_dflt (refine' iter2_K (by k_asm) (by k_asm) (by k_mem) ?_); intro I h8 F8 N8 lI; (try k_lt lI); (try k_sweep))) | ((with_reducible show wpAny _ _ (execs (Stmt.If _ _ _ _ :: Stmt.AugAssign _ _ _ _ :: Stmt.For _ _ _ _ _ :: _) _) _ _ _); k_here; refine halt ?_) | row_room_at HB | (dsimp only; (first | ((with_reducible show wpAny _ _ (call (Value.ref 84) _) _ _ _); k_here; refine halt ?_) | ((with_reducible show wpAny _ _ (pyIter (Value.ref _)) _ _ _); (k_here; (with_reducible show wpAny _ _ (pyIter _) (fun _ _ => ForAt _ _ _ _ _ _ _ _ _ _ _) _ _); refine halt ?_)) | ((with_reducible show wpAny _ _ (exec (Stmt.For _ _ _ _ _) _) _ _ _); k_here; refine halt ?_) | ((with_reducible show wpAny _ _ (call (Value.builtin "iter") _ _) _ _ _); (k_here; (with_reducible show wpAny _ _ (call (Value.builtin "iter") [Value.ref _, Value.str _ _]) _ _ _); k_dflt (refine' iter2_K (by k_asm) (by k_asm) (by k_mem) ?_); intro I h8 F8 N8 lI; (try k_lt lI); (try k_sweep))) | ((with_reducible show wpAny _ _ (execs (Stmt.If _ _ _ _ :: Stmt.AugAssign _ _ _ _ :: Stmt.For _ _ _ _ _ :: _) _) _ _ _); k_here; refine halt ?_) | walk1 | row_room_at HE)) | (leave1; walk_say "STEP leave1"; try dsimp only)))
                  (with_reducible rename Fr _ _ _ _ => F7)
                  (with_reducible rename News _ _ _ _ => N7)
                  (try dsimp only)
                  exact wEnd F7 N7 _ (Nat.lt_succ_of_lt (Nat.lt_succ_self _)) (tokW (ns := ns4) (ks := ks4) (tl := tl4) hs4 hz4 h14 htl4 ⟨rfl, rfl, rfl, trivial⟩ hlex))
              | false =>
                rw [quot_o hw hb] at hlex
                have htl5 : (tv ++ y).length + ys'.length ≤ 1000 := by
                  rw [Str.length_append, hl]
                  simp only [List.length_cons] at htl
                  omega
                (repeat' (first | (k_unfold; (try dsimp only)) | row_room_at HE | (k_end; wrow_close) | ((with_reducible show wpAny _ _ (call (Value.ref 84) _) _ _ _); k_here; refine halt ?_) | ((with_reducible show wpAny _ _ (pyIter (Value.ref _)) _ _ _); (k_here; (with_reducible show wpAny _ _ (pyIter _) (fun _ _ => ForAt _ _ _ _ _ _ _ _ _ _ _) _ _); refine halt ?_)) | ((with_reducible show wpAny _ _ (exec (Stmt.For _ _ _ _ _) _) _ _ _); k_here; refine halt ?_) | ((with_reducible show wpAny _ _ (call (Value.builtin "iter") _ _) _ _ _); (k_here; (with_reducible show wpAny _ _ (call (Value.builtin "iter") [Value.ref _, Value.str _ _]) _ _ _); k_dflt (refine' iter2_K (by k_asm) (by k_asm) (by k_mem) ?_); intro I h8 F8 N8 lI; (try k_lt lI); (try k_sweep))) | ((with_reducible show wpAny _ _ (execs (Stmt.If _ _ _ _ :: Stmt.AugAssign _ _ _ _ :: Stmt.For _ _ _ _ _ :: _) _) _ _ _); k_here; refine halt ?_) | row_room_at HB | (dsimp only; (first | ((with_reducible show wpAny _ _ (call (Value.ref 84) _) _ _ _); k_here; refine halt ?_) | ((with_reducible show wpAny _ _ (pyIter (Value.ref _)) _ _ _); (k_here; (with_reducible show wpAny _ _ (pyIter _) (fun _ _ => ForAt _ _ _ _ _ _ _ _ _ _ _) _ _); refine halt ?_)) | ((with_reducible show wpAny _ _ (exec (Stmt.For _ _ _ _ _) _) _ _ _); k_here; refine halt ?_) | ((with_reducible show wpAny _ _ (call (Value.builtin "iter") _ _) _ _ _); (k_here; (with_reducible show wpAny _ _ (call (Value.builtin "iter") [Value.ref _, Value.str _ _]) _ _ _); k_dflt (refine' iter2_K (by k_asm) (by k_asm) (by k_mem) ?_); intro I h8 F8 N8 lI; (try k_lt lI); (try k_sweep))) | ((with_reducible show wpAny _ _ (execs (Stmt.If _ _ _ _ :: Stmt.AugAssign _ _ _ _ :: Stmt.For _ _ _ _ _ :: _) _) _ _ _); k_here; refine halt ?_) | walk1 | row_room_at HE)) | (leave1; walk_say "STEP leave1"; try dsimp only)))
                (with_reducible rename Fr _ _ _ _ => F7)
                (with_reducible rename News _ _ _ _ => N7)
                (try dsimp only)
                exact wEnd F7 N7 _ (Nat.lt_succ_self _) (tokW (ns := ns2) (ks := ks2) (tl := tl2) hs' hz' h1' htl5 ⟨rfl, rfl, rfl, trivial⟩ hlex))
        | false =>
          (repeat' (first | (k_unfold; (try dsimp only)) | row_room_at HE | (k_end; wrow_close) | ((with_reducible show wpAny _ _ (call (Value.ref 84) _) _ _ _); k_here; refine halt ?_) | ((with_reducible show wpAny _ _ (pyIter (Value.ref _)) _ _ _); (k_here; (with_reducible show wpAny _ _ (pyIter _) (fun _ _ => ForAt _ _ _ _ _ _ _ _ _ _ _) _ _); refine halt ?_)) | ((with_reducible show wpAny _ _ (exec (Stmt.For _ _ _ _ _) _) _ _ _); k_here; refine halt ?_) | ((with_reducible show wpAny _ _ (call (Value.builtin "iter") _ _) _ _ _); (k_here; (with_reducible show wpAny _ _ (call (Value.builtin "iter") [Value.ref _, Value.str _ _]) _ _ _); k_dflt (refine' iter2_K (by k_asm) (by k_asm) (by k_mem) ?_); intro I h8 F8 N8 lI; (try k_lt lI); (try k_sweep))) | ((with_reducible show wpAny _ _ (execs (Stmt.If _ _ _ _ :: Stmt.AugAssign _ _ _ _ :: Stmt.For _ _ _ _ _ :: _) _) _ _ _); k_here; refine halt ?_) | row_room_at HB | (dsimp only; (first | ((with_reducible show wpAny _ _ (call (Value.ref 84) _) _ _ _); k_here; refine halt ?_) | ((with_reducible show wpAny _ _ (pyIter (Value.ref _)) _ _ _); (k_here; (with_reducible show wpAny _ _ (pyIter _) (fun _ _ => ForAt _ _ _ _ _ _ _ _ _ _ _) _ _); refine halt ?_)) | ((with_reducible show wpAny _ _ (exec (Stmt.For _ _ _ _ _) _) _ _ _); k_here; refine halt ?_) | ((with_reducible show wpAny _ _ (call (Value.builtin "iter") _ _) _ _ _); (k_here; (with_reducible show wpAny _ _ (call (Value.builtin "iter") [Value.ref _, Value.str _ _]) _ _ _); k_dflt (refine' iter2_K (by k_asm) (by k_asm) (by k_mem) ?_); intro I h8 F8 N8 lI; (try k_lt lI); (try k_sweep))) | ((with_reducible show wpAny _ _ (execs (Stmt.If _ _ _ _ :: Stmt.AugAssign _ _ _ _ :: Stmt.For _ _ _ _ _ :: _) _) _ _ _); k_here; refine halt ?_) | walk1 | row_room_at HE)) | (leave1; walk_say "STEP leave1"; try dsimp only)))
          refine go ?_
          refine join_cons (BareIn w lx I bm tb np g' L' s tok rest) ?_ ?_
          · intro Qj hJ
            cases hb : (y == Str.ofString "\\") with
            | true =>
              rw [skip_b hw hq hb] at hlex
              (repeat' (first | (k_unfold; (try dsimp only)) | row_room_at HE | (k_end; wrow_close) | ((with_reducible show wpAny _ _ (call (Value.ref 84) _) _ _ _); k_here; refine halt ?_) | ((with_reducible show wpAny _ _ (pyIter (Value.ref _)) _ _ _); (k_here; (with_reducible show wpAny _ _ (pyIter _) (fun _ _ => ForAt _ _ _ _ _ _ _ _ _ _ _) _ _); refine halt ?_)) | ((with_reducible show wpAny _ _ (exec (Stmt.For _ _ _ _ _) _) _ _ _); k_here; refine halt ?_) | ((with_reducible show wpAny _ _ (call (Value.builtin "iter") _ _) _ _ _); (k_here; (with_reducible show wpAny _ _ (call (Value.builtin "iter") [Value.ref _, Value.str _ _]) _ _ _); k_dflt (refine' iter2_K (by k_asm) (by k_asm) (by k_mem) ?_); intro I h8 F8 N8 lI; (try k_lt lI); (try k_sweep))) | ((with_reducible show wpAny _ _ (execs (Stmt.If _ _ _ _ :: Stmt.AugAssign _ _ _ _ :: Stmt.For _ _ _ _ _ :: _) _) _ _ _); k_here; refine halt ?_) | row_room_at HB | (dsimp only; (first | ((with_reducible show wpAny _ _ (call (Value.ref 84) _) _ _ _); k_here; refine halt ?_) | ((with_reducible show wpAny _ _ (pyIter (Value.ref _)) _ _ _); (k_here; (with_reducible show wpAny _ _ (pyIter _) (fun _ _ => ForAt _ _ _ _ _ _ _ _ _ _ _) _ _); refine halt ?_)) | ((with_reducible show wpAny _ _ (exec (Stmt.For _ _ _ _ _) _) _ _ _); k_here; refine halt ?_) | ((with_reducible show wpAny _ _ (call (Value.builtin "iter") _ _) _ _ _); (k_here; (with_reducible show wpAny _ _ (call (Value.builtin "iter") [Value.ref _, Value.str _ _]) _ _ _); k_dflt (refine' iter2_K (by k_asm) (by k_asm) (by k_mem) ?_); intro I h8 F8 N8 lI; (try k_lt lI); (try k_sweep))) | ((with_reducible show wpAny _ _ (execs (Stmt.If _ _ _ _ :: Stmt.AugAssign _ _ _ _ :: Stmt.For _ _ _ _ _ :: _) _) _ _ _); k_here; refine halt ?_) | walk1 | row_room_at HE)) | (leave1; walk_say "STEP leave1"; try dsimp only)))
              refine go ?_
              (with_reducible rename Fr _ _ _ _ => F3)
              (with_reducible rename News _ _ _ _ => N3)
              refine' wpAny_call (read_led (pre := [(I, ciObj bm _), (bm, methodObj (.ref 84) (.ref lx.x1))]) ?rdp ?run X' T' ok rs hs' hz' ?rF ?rN ?rp ?rr0 ?rr1)
              (case rF => exact F3)
              (case rN => exact N3)
              (case rdp => (first | exact lim2 hdp rfl | exact lim1 hdp rfl | exact lim2 hun rfl | exact lim1 hun rfl | exact lim0 hdp | exact lim0 hun | exact lim3 hdp rfl | exact lim3 hun rfl | ((try dsimp only [arA, Around.deeper]); omega)))
              (case run => (first | exact lim2 hdp rfl | exact lim1 hdp rfl | exact lim2 hun rfl | exact lim1 hun rfl | exact lim0 hdp | exact lim0 hun | exact lim3 hdp rfl | exact lim3 hun rfl | ((try dsimp only [arA, Around.deeper]); omega)))
              (case rp =>
                intro q hq
                rcases List.mem_cons.mp hq with rfl | hq
                · exact Nat.lt_trans lb1 lI1
                · rw [List.mem_singleton.mp hq]; exact lb1)
              (case rr0 =>
                rintro rfl
                cases hs'
                cases hlex)
              (case rr1 =>
                rintro z t4 r4 ys4 rfl rfl hs4 h4 tk4 ns4 ks4 tl4 F4 N4
                clear F3 N3
                dsimp only at hlex
                have hl4 := h1' z (.head _)
                have h14 : ∀ y ∈ ys4, y.length = 1 := fun y hy => h1' y (.tail _ hy)
                have hz4 : r4.length ≤ 1000 := Nat.le_trans (Nat.le_succ _) hz'
                have htl : (Str.ofString "" ++ z).length + ys4.length ≤ 1000 := by
                  have e0 : (Str.ofString "").length = 0 := by decide
                  rw [Str.length_append, e0, hl4]
                  simp only [List.length_cons] at hyl
                  omega
                dsimp only [Lx.led, lexD, strD, ent, List.cons_append, List.nil_append] at N4
                (try dsimp only)
                (repeat' (first | (k_unfold; (try dsimp only)) | row_room_at HE | (k_end; wrow_close) | ((with_reducible show wpAny _ _ (call (Value.ref 84) _) _ _ _); k_here; refine halt ?_) | ((with_reducible show wpAny _ _ (pyIter (Value.ref _)) _ _ _); (k_here; (with_reducible show wpAny _ _ (pyIter _) (fun _ _ => ForAt _ _ _ _ _ _ _ _ _ _ _) _ _); refine halt ?_)) | ((with_reducible show wpAny _ _ (exec (Stmt.For _ _ _ _ _) _) _ _ _); k_here; refine halt ?_) | ((with_reducible show wpAny _ _ (call (Value.builtin "iter") _ _) _ _ _); (k_here; (with_reducible show wpAny _ _ (call (Value.builtin "iter") [Value.ref _, Value.str _ _]) _ _ _); k_dflt (refine' iter2_K (by k_asm) (by k_asm) (by k_mem) ?_); intro I h8 F8 N8 lI; (try k_lt lI); (try k_sweep))) | ((with_reducible show wpAny _ _ (execs (Stmt.If _ _ _ _ :: Stmt.AugAssign _ _ _ _ :: Stmt.For _ _ _ _ _ :: _) _) _ _ _); k_here; refine halt ?_) | row_room_at HB | (dsimp only; (first | ((with_reducible show wpAny _ _ (call (Value.ref 84) _) _ _ _); k_here; refine halt ?_) | ((with_reducible show wpAny _ _ (pyIter (Value.ref _)) _ _ _); (k_here; (with_reducible show wpAny _ _ (pyIter _) (fun _ _ => ForAt _ _ _ _ _ _ _ _ _ _ _) _ _); refine halt ?_)) | ((with_reducible show wpAny _ _ (exec (Stmt.For _ _ _ _ _) _) _ _ _); k_here; refine halt ?_) | ((with_reducible show wpAny _ _ (call (Value.builtin "iter") _ _) _ _ _); (k_here; (with_reducible show wpAny _ _ (call (Value.builtin "iter") [Value.ref _, Value.str _ _]) _ _ _); k_dflt (refine' iter2_K (by k_asm) (by k_asm) (by k_mem) ?_); intro I h8 F8 N8 lI; (try k_lt lI); (try k_sweep))) | ((with_reducible show wpAny _ _ (execs (Stmt.If _ _ _ _ :: Stmt.AugAssign _ _ _ _ :: Stmt.For _ _ _ _ _ :: _) _) _ _ _); k_here; refine halt ?_) | walk1 | row_room_at HE)) | (leave1; walk_say "STEP leave1"; try dsimp only)))
                (with_reducible rename Fr _ _ _ _ => F7)
                (with_reducible rename News _ _ _ _ => N7)
                (try dsimp only)
                exact hJ _ (bareIn (ns := ns4) (ks := ks4) (tl := tl4) hl4 hs4 hz4 h14 htl ⟨rfl, rfl, rfl, rfl, trivial⟩ hlex F7 N7))
            | false =>
              rw [skip_o hw hq hb] at hlex
              have htl : (Str.ofString "" ++ y).length + ys'.length ≤ 1000 := by
                have e0 : (Str.ofString "").length = 0 := by decide
                rw [Str.length_append, e0, hl]
                omega
              (repeat' (first | (k_unfold; (try dsimp only)) | row_room_at HE | (k_end; wrow_close) | ((with_reducible show wpAny _ _ (call (Value.ref 84) _) _ _ _); k_here; refine halt ?_) | ((with_reducible show wpAny _ _ (pyIter (Value.ref _)) _ _ _); (k_here; (with_reducible show wpAny _ _ (pyIter _) (fun _ _ => ForAt _ _ _ _ _ _ _ _ _ _ _) _ _); refine halt ?_)) | ((with_reducible show wpAny _ _ (exec (Stmt.For _ _ _ _ _) _) _ _ _); k_here; refine halt ?_) | ((with_reducible show wpAny _ _ (call (Value.builtin "iter") _ _) _ _ _); (k_here; (with_reducible show wpAny _ _ (call (Value.builtin "iter") [Value.ref _, Value.str _ _]) _ _ _); k_dflt (refine' iter2_K (by k_asm) (by k_asm) (by k_mem) ?_); intro I h8 F8 N8 lI; (try k_lt lI); (try k_sweep))) | ((with_reducible show wpAny _ _ (execs (Stmt.If _ _ _ _ :: Stmt.AugAssign _ _ _ _ :: Stmt.For _ _ _ _ _ :: _) _) _ _ _); k_here; refine halt ?_) | row_room_at HB | (dsimp only; (first | ((with_reducible show wpAny _ _ (call (Value.ref 84) _) _ _ _); k_here; refine halt ?_) | ((with_reducible show wpAny _ _ (pyIter (Value.ref _)) _ _ _); (k_here; (with_reducible show wpAny _ _ (pyIter _) (fun _ _ => ForAt _ _ _ _ _ _ _ _ _ _ _) _ _); refine halt ?_)) | ((with_reducible show wpAny _ _ (exec (Stmt.For _ _ _ _ _) _) _ _ _); k_here; refine halt ?_) | ((with_reducible show wpAny _ _ (call (Value.builtin "iter") _ _) _ _ _); (k_here; (with_reducible show wpAny _ _ (call (Value.builtin "iter") [Value.ref _, Value.str _ _]) _ _ _); k_dflt (refine' iter2_K (by k_asm) (by k_asm) (by k_mem) ?_); intro I h8 F8 N8 lI; (try k_lt lI); (try k_sweep))) | ((with_reducible show wpAny _ _ (execs (Stmt.If _ _ _ _ :: Stmt.AugAssign _ _ _ _ :: Stmt.For _ _ _ _ _ :: _) _) _ _ _); k_here; refine halt ?_) | walk1 | row_room_at HE)) | (leave1; walk_say "STEP leave1"; try dsimp only)))
              (with_reducible rename Fr _ _ _ _ => F7)
              (with_reducible rename News _ _ _ _ => N7)
              (try dsimp only)
              exact hJ _ (bareIn (ns := ns2) (ks := ks2) (tl := tl2) hl hs' hz' h1' htl ⟨rfl, rfl, rfl, rfl, trivial⟩ hlex F7 N7)
          · (with_reducible rename Fr _ _ _ _ => F3)
            (with_reducible rename News _ _ _ _ => N3)
            clear hlex hl h1' hz' hyl hs' hw hq hws N3 F3
            intro s'z jz
            (refine hideP ?_; intro PP hPP); (obtain ⟨z, tz, tt, r4, ns4, ks4, tl4, ys4, h4, tk4, m4, rfl, hl4, hs4, hz4, h14, htl, e4, hlex, F3, N3⟩ := jz) <;> (refine hPP ?_; clear hPP; clear PP)
            replace F3 := fr_knows e4 F3
            clear e4
            dsimp only [Lx.led, lexD, strD, ent] at N3
            (repeat' (first | (k_unfold; (try dsimp only)) | row_room_at HE | (k_end; wrow_close) | ((with_reducible show wpAny _ _ (call (Value.ref 84) _) _ _ _); k_here; refine halt ?_) | ((with_reducible show wpAny _ _ (pyIter (Value.ref _)) _ _ _); (k_here; (with_reducible show wpAny _ _ (pyIter _) (fun _ _ => ForAt _ _ _ _ _ _ _ _ _ _ _) _ _); refine halt ?_)) | ((with_reducible show wpAny _ _ (exec (Stmt.For _ _ _ _ _) _) _ _ _); k_here; refine halt ?_) | ((with_reducible show wpAny _ _ (call (Value.builtin "iter") _ _) _ _ _); (k_here; (with_reducible show wpAny _ _ (call (Value.builtin "iter") [Value.ref _, Value.str _ _]) _ _ _); k_dflt (refine' iter2_K (by k_asm) (by k_asm) (by k_mem) ?_); intro I h8 F8 N8 lI; (try k_lt lI); (try k_sweep))) | ((with_reducible show wpAny _ _ (execs (Stmt.If _ _ _ _ :: Stmt.AugAssign _ _ _ _ :: Stmt.For _ _ _ _ _ :: _) _) _ _ _); k_here; refine halt ?_) | row_room_at HB | (dsimp only; (first | ((with_reducible show wpAny _ _ (call (Value.ref 84) _) _ _ _); k_here; refine halt ?_) | ((with_reducible show wpAny _ _ (pyIter (Value.ref _)) _ _ _); (k_here; (with_reducible show wpAny _ _ (pyIter _) (fun _ _ => ForAt _ _ _ _ _ _ _ _ _ _ _) _ _); refine halt ?_)) | ((with_reducible show wpAny _ _ (exec (Stmt.For _ _ _ _ _) _) _ _ _); k_here; refine halt ?_) | ((with_reducible show wpAny _ _ (call (Value.builtin "iter") _ _) _ _ _); (k_here; (with_reducible show wpAny _ _ (call (Value.builtin "iter") [Value.ref _, Value.str _ _]) _ _ _); k_dflt (refine' iter2_K (by k_asm) (by k_asm) (by k_mem) ?_); intro I h8 F8 N8 lI; (try k_lt lI); (try k_sweep))) | ((with_reducible show wpAny _ _ (execs (Stmt.If _ _ _ _ :: Stmt.AugAssign _ _ _ _ :: Stmt.For _ _ _ _ _ :: _) _) _ _ _); k_here; refine halt ?_) | walk1 | row_room_at HE)) | (leave1; walk_say "STEP leave1"; try dsimp only)))
            refine go ?_
            refine For_start ?_
            (repeat' (first | (k_unfold; (try dsimp only)) | row_room_at HE | (k_end; wrow_close) | ((with_reducible show wpAny _ _ (call (Value.ref 84) _) _ _ _); k_here; refine halt ?_) | ((with_reducible show wpAny _ _ (pyIter (Value.ref _)) _ _ _); (k_here; (with_reducible show wpAny _ _ (pyIter _) (fun _ _ => ForAt _ _ _ _ _ _ _ _ _ _ _) _ _); refine halt ?_)) | ((with_reducible show wpAny _ _ (exec (Stmt.For _ _ _ _ _) _) _ _ _); k_here; refine halt ?_) | ((with_reducible show wpAny _ _ (call (Value.builtin "iter") _ _) _ _ _); (k_here; (with_reducible show wpAny _ _ (call (Value.builtin "iter") [Value.ref _, Value.str _ _]) _ _ _); k_dflt (refine' iter2_K (by k_asm) (by k_asm) (by k_mem) ?_); intro I h8 F8 N8 lI; (try k_lt lI); (try k_sweep))) | ((with_reducible show wpAny _ _ (execs (Stmt.If _ _ _ _ :: Stmt.AugAssign _ _ _ _ :: Stmt.For _ _ _ _ _ :: _) _) _ _ _); k_here; refine halt ?_) | row_room_at HB | (dsimp only; (first | ((with_reducible show wpAny _ _ (call (Value.ref 84) _) _ _ _); k_here; refine halt ?_) | ((with_reducible show wpAny _ _ (pyIter (Value.ref _)) _ _ _); (k_here; (with_reducible show wpAny _ _ (pyIter _) (fun _ _ => ForAt _ _ _ _ _ _ _ _ _ _ _) _ _); refine halt ?_)) | ((with_reducible show wpAny _ _ (exec (Stmt.For _ _ _ _ _) _) _ _ _); k_here; refine halt ?_) | ((with_reducible show wpAny _ _ (call (Value.builtin "iter") _ _) _ _ _); (k_here; (with_reducible show wpAny _ _ (call (Value.builtin "iter") [Value.ref _, Value.str _ _]) _ _ _); k_dflt (refine' iter2_K (by k_asm) (by k_asm) (by k_mem) ?_); intro I h8 F8 N8 lI; (try k_lt lI); (try k_sweep))) | ((with_reducible show wpAny _ _ (execs (Stmt.If _ _ _ _ :: Stmt.AugAssign _ _ _ _ :: Stmt.For _ _ _ _ _ :: _) _) _ _ _); k_here; refine halt ?_) | walk1 | row_room_at HE)) | (leave1; walk_say "STEP leave1"; try dsimp only)))
            refine go ?_
            (with_reducible rename Fr _ _ _ _ => F5)
            (with_reducible rename News _ _ _ _ => N5)
            refine iter_ci (N5 _ (.head _)).1 ?_
            refine for_next (TokW w lx I bm tb np bareF tok rest) F5 N5 (tokW (ns := ns4) (ks := ks4) (tl := tl4) hs4 hz4 h14 htl ⟨rfl, rfl, rfl, trivial⟩ hlex) ?_ PassesOwn.never
            clear F5 N5 htl hlex
            intro k m news h tk jz5
            (refine hideP ?_; intro PP hPP); (obtain ⟨sg, ns, ks, tl, tt, ys, tv, rfl, hs, hz, h1, htl, e1, hlex, rfl⟩ := jz5) <;> (refine hPP ?_; clear hPP; clear PP)
            intro F N
            replace F := fr_knows e1 F
            clear e1
            have hne : ∀ y ∈ ys, y ≠ Str.ofString "" := fun y hy e => by have := h1 y hy; rw [e] at this; exact absurd this (by decide)
            refine' next_read ?nab1 ?nbb1 X' T' ok rs hs hz hne F N lb1 lb3 lI1 ?r0b1 ?r1b1
            (case nab1 => (first | exact lim2 hdp rfl | exact lim1 hdp rfl | exact lim2 hun rfl | exact lim1 hun rfl | exact lim0 hdp | exact lim0 hun | exact lim3 hdp rfl | exact lim3 hun rfl | ((try dsimp only [arA, Around.deeper]); omega)))
            (case nbb1 => (first | exact lim2 hdp rfl | exact lim1 hdp rfl | exact lim2 hun rfl | exact lim1 hun rfl | exact lim0 hdp | exact lim0 hun | exact lim3 hdp rfl | exact lim3 hun rfl | ((try dsimp only [arA, Around.deeper]); omega)))
            (case r0b1 =>
              rintro rfl h2 tk2 F2 N2
              cases hs
              rw [bareF.eq_def] at hlex
              cases hlex)
            (case r1b1 =>
              rintro y t r ys' rfl rfl hs' h2 tk2 ns2 ks2 tl2 F2 N2
              clear F N hne
              have hz' : r.length ≤ 1000 := Nat.le_trans (Nat.le_succ _) hz
              have hl := h1 y (.head _)
              have h1' : ∀ y ∈ ys', y.length = 1 := fun y hy => h1 y (.tail _ hy)
              have htv : tv.length ≤ 1000 := Nat.le_trans (Nat.le_add_right _ _) htl
              clear hs hz h1
              dsimp only [Lx.led, lexD, strD, ent] at N2
              (try dsimp only)
              cases hws : (Builtin.Str.occurrences (Str.ofString "\n\t\r ") y 0 (Str.ofString "\n\t\r ").length 1).isEmpty with
              | false =>
                rw [bare_ws (by unfold wsF; rw [hws]; rfl)] at hlex
                cases hlex
                (repeat' (first | (k_unfold; (try dsimp only)) | row_room_at HE | (k_end; wrow_close) | ((with_reducible show wpAny _ _ (call (Value.ref 84) _) _ _ _); k_here; refine halt ?_) | ((with_reducible show wpAny _ _ (pyIter (Value.ref _)) _ _ _); (k_here; (with_reducible show wpAny _ _ (pyIter _) (fun _ _ => ForAt _ _ _ _ _ _ _ _ _ _ _) _ _); refine halt ?_)) | ((with_reducible show wpAny _ _ (exec (Stmt.For _ _ _ _ _) _) _ _ _); k_here; refine halt ?_) | ((with_reducible show wpAny _ _ (call (Value.builtin "iter") _ _) _ _ _); (k_here; (with_reducible show wpAny _ _ (call (Value.builtin "iter") [Value.ref _, Value.str _ _]) _ _ _); k_dflt (refine' iter2_K (by k_asm) (by k_asm) (by k_mem) ?_); intro I h8 F8 N8 lI; (try k_lt lI); (try k_sweep))) | ((with_reducible show wpAny _ _ (execs (Stmt.If _ _ _ _ :: Stmt.AugAssign _ _ _ _ :: Stmt.For _ _ _ _ _ :: _) _) _ _ _); k_here; refine halt ?_) | row_room_at HB | (dsimp only; (first | ((with_reducible show wpAny _ _ (call (Value.ref 84) _) _ _ _); k_here; refine halt ?_) | ((with_reducible show wpAny _ _ (pyIter (Value.ref _)) _ _ _); (k_here; (with_reducible show wpAny _ _ (pyIter _) (fun _ _ => ForAt _ _ _ _ _ _ _ _ _ _ _) _ _); refine halt ?_)) | ((with_reducible show wpAny _ _ (exec (Stmt.For _ _ _ _ _) _) _ _ _); k_here; refine halt ?_) | ((with_reducible show wpAny _ _ (call (Value.builtin "iter") _ _) _ _ _); (k_here; (with_reducible show wpAny _ _ (call (Value.builtin "iter") [Value.ref _, Value.str _ _]) _ _ _); k_dflt (refine' iter2_K (by k_asm) (by k_asm) (by k_mem) ?_); intro I h8 F8 N8 lI; (try k_lt lI); (try k_sweep))) | ((with_reducible show wpAny _ _ (execs (Stmt.If _ _ _ _ :: Stmt.AugAssign _ _ _ _ :: Stmt.For _ _ _ _ _ :: _) _) _ _ _); k_here; refine halt ?_) | walk1 | row_room_at HE)) | (leave1; walk_say "STEP leave1"; try dsimp only)))
                (with_reducible rename Fr _ _ _ _ => F7)
                (with_reducible rename News _ _ _ _ => N7)
                (try dsimp only)
                (try dsimp only [WPost])
                (repeat (first | (k_unfold; (try dsimp only)) | row_room_at HE | dsimp only))
                (try dsimp only)
                exact hfin _ _ _ r ns2 ks2 tl2 _ hs' F7 (fun q hq => N7 q (.tail _ (.tail _ hq)))
              | true =>
                have hw : wsF y = false := by unfold wsF; rw [hws]; rfl
                cases hb : (y == Str.ofString "\\") with
                | true =>
                  rw [bare_b hw hb] at hlex
                  (repeat' (first | (k_unfold; (try dsimp only)) | row_room_at HE | (k_end; wrow_close) | ((with_reducible show wpAny _ _ (call (Value.ref 84) _) _ _ _); k_here; refine halt ?_) | ((with_reducible show wpAny _ _ (pyIter (Value.ref _)) _ _ _); (k_here; (with_reducible show wpAny _ _ (pyIter _) (fun _ _ => ForAt _ _ _ _ _ _ _ _ _ _ _) _ _); refine halt ?_)) | ((with_reducible show wpAny _ _ (exec (Stmt.For _ _ _ _ _) _) _ _ _); k_here; refine halt ?_) | ((with_reducible show wpAny _ _ (call (Value.builtin "iter") _ _) _ _ _); (k_here; (with_reducible show wpAny _ _ (call (Value.builtin "iter") [Value.ref _, Value.str _ _]) _ _ _); k_dflt (refine' iter2_K (by k_asm) (by k_asm) (by k_mem) ?_); intro I h8 F8 N8 lI; (try k_lt lI); (try k_sweep))) | ((with_reducible show wpAny _ _ (execs (Stmt.If _ _ _ _ :: Stmt.AugAssign _ _ _ _ :: Stmt.For _ _ _ _ _ :: _) _) _ _ _); k_here; refine halt ?_) | row_room_at HB | (dsimp only; (first | ((with_reducible show wpAny _ _ (call (Value.ref 84) _) _ _ _); k_here; refine halt ?_) | ((with_reducible show wpAny _ _ (pyIter (Value.ref _)) _ _ _); (k_here; (with_reducible show wpAny _ _ (pyIter _) (fun _ _ => ForAt _ _ _ _ _ _ _ _ _ _ _) _ _); refine halt ?_)) | ((with_reducible show wpAny _ _ (exec (Stmt.For _ _ _ _ _) _) _ _ _); k_here; refine halt ?_) | ((with_reducible show wpAny _ _ (call (Value.builtin "iter") _ _) _ _ _); (k_here; (with_reducible show wpAny _ _ (call (Value.builtin "iter") [Value.ref _, Value.str _ _]) _ _ _); k_dflt (refine' iter2_K (by k_asm) (by k_asm) (by k_mem) ?_); intro I h8 F8 N8 lI; (try k_lt lI); (try k_sweep))) | ((with_reducible show wpAny _ _ (execs (Stmt.If _ _ _ _ :: Stmt.AugAssign _ _ _ _ :: Stmt.For _ _ _ _ _ :: _) _) _ _ _); k_here; refine halt ?_) | walk1 | row_room_at HE)) | (leave1; walk_say "STEP leave1"; try dsimp only)))
                  refine go ?_
                  (with_reducible rename Fr _ _ _ _ => F3)
                  (with_reducible rename News _ _ _ _ => N3)
                  refine' wpAny_call (read_led (pre := [(I, ciObj bm _), (bm, methodObj (.ref 84) (.ref lx.x1))]) ?rdpb1 ?runb1 X' T' ok rs hs' hz' ?rFb1 ?rNb1 ?rpb1 ?rr0b1 ?rr1b1)
                  (case rFb1 => exact F3)
                  (case rNb1 => exact N3)
                  (case rdpb1 => (first | exact lim2 hdp rfl | exact lim1 hdp rfl | exact lim2 hun rfl | exact lim1 hun rfl | exact lim0 hdp | exact lim0 hun | exact lim3 hdp rfl | exact lim3 hun rfl | ((try dsimp only [arA, Around.deeper]); omega)))
                  (case runb1 => (first | exact lim2 hdp rfl | exact lim1 hdp rfl | exact lim2 hun rfl | exact lim1 hun rfl | exact lim0 hdp | exact lim0 hun | exact lim3 hdp rfl | exact lim3 hun rfl | ((try dsimp only [arA, Around.deeper]); omega)))
                  (case rpb1 =>
                    intro q hq
                    rcases List.mem_cons.mp hq with rfl | hq
                    · exact Nat.lt_trans lb1 lI1
                    · rw [List.mem_singleton.mp hq]; exact lb1)
                  (case rr0b1 =>
                    rintro rfl
                    cases hs'
                    cases hlex)
                  (case rr1b1 =>
                    rintro z t4 r4 ys4 rfl rfl hs4 h4 tk4 ns4 ks4 tl4 F4 N4
                    clear F3 N3
                    dsimp only at hlex
                    have hl4 := h1' z (.head _)
                    have h14 : ∀ y ∈ ys4, y.length = 1 := fun y hy => h1' y (.tail _ hy)
                    have hz4 : r4.length ≤ 1000 := Nat.le_trans (Nat.le_succ _) hz'
                    have htl4 : (tv ++ z).length + ys4.length ≤ 1000 := by
                      rw [Str.length_append, hl4]
                      simp only [List.length_cons] at htl
                      omega
                    dsimp only [Lx.led, lexD, strD, ent, List.cons_append, List.nil_append] at N4
                    (try dsimp only)
                    (repeat' (first | (k_unfold; (try dsimp only)) | row_room_at HE | (k_end; wrow_close) | ((with_reducible show wpAny _ _ (call (Value.ref 84) _) _ _ _); k_here; refine halt ?_) | ((with_reducible show wpAny _ _ (pyIter (Value.ref _)) _ _ _); (k_here; (with_reducible show wpAny _ _ (pyIter _) (fun _ _ => ForAt _ _ _ _ _ _ _ _ _ _ _) _ _); refine halt ?_)) | ((with_reducible show wpAny _ _ (exec (Stmt.For _ _ _ _ _) _) _ _ _); k_here; refine halt ?_) | ((with_reducible show wpAny _ _ (call (Value.builtin "iter") _ _) _ _ _); (k_here; (with_reducible show wpAny _ _ (call (Value.builtin "iter") [Value.ref _, Value.str _ _]) _ _ _); k_dflt (refine' iter2_K (by k_asm) (by k_asm) (by k_mem) ?_); intro I h8 F8 N8 lI; (try k_lt lI); (try k_sweep))) | ((with_reducible show wpAny _ _ (execs (Stmt.If _ _ _ _ :: Stmt.AugAssign _ _ _ _ :: Stmt.For _ _ _ _ _ :: _) _) _ _ _); k_here; refine halt ?_) | row_room_at HB | (dsimp only; (first | ((with_reducible show wpAny _ _ (call (Value.ref 84) _) _ _ _); k_here; refine halt ?_) | ((with_reducible show wpAny _ _ (pyIter (Value.ref _)) _ _ _); (k_here; (with_reducible show wpAny _ _ (pyIter _) (fun _ _ => ForAt _ _ _ _ _ _ _ _ _ _ _) _ _); refine halt ?_)) | ((with_reducible show wpAny _ _ (exec (Stmt.For _ _ _ _ _) _) _ _ _); k_here; refine halt ?_) | ((with_reducible show wpAny _ _ (call (Value.builtin "iter") _ _) _ _ _); (k_here; (with_reducible show wpAny _ _ (call (Value.builtin "iter") [Value.ref _, Value.str _ _]) _ _ _); k_dflt (refine' iter2_K (by k_asm) (by k_asm) (by k_mem) ?_); intro I h8 F8 N8 lI; (try k_lt lI); (try k_sweep))) | ((with_reducible show wpAny _ _ (execs (Stmt.If _ _ _ _ :: Stmt.AugAssign _ _ _ _ :: Stmt.For _ _ _ _ _ :: _) _) _ _ _); k_here; refine halt ?_) | walk1 | row_room_at HE)) | (leave1; walk_say "STEP leave1"; try dsimp only)))
                    (with_reducible rename Fr _ _ _ _ => F7)
                    (with_reducible rename News _ _ _ _ => N7)
                    (try dsimp only)
                    exact wEnd F7 N7 _ (Nat.lt_succ_of_lt (Nat.lt_succ_self _)) (tokW (ns := ns4) (ks := ks4) (tl := tl4) hs4 hz4 h14 htl4 ⟨rfl, rfl, rfl, trivial⟩ hlex))
                | false =>
                  rw [bare_o hw hb] at hlex
                  have htl5 : (tv ++ y).length + ys'.length ≤ 1000 := by
                    rw [Str.length_append, hl]
                    simp only [List.length_cons] at htl
                    omega
                  (repeat' (first | (k_unfold; (try dsimp only)) | row_room_at HE | (k_end; wrow_close) | ((with_reducible show wpAny _ _ (call (Value.ref 84) _) _ _ _); k_here; refine halt ?_) | ((with_reducible show wpAny _ _ (pyIter (Value.ref _)) _ _ _); (k_here; (with_reducible show wpAny _ _ (pyIter _) (fun _ _ => ForAt _ _ _ _ _ _ _ _ _ _ _) _ _); refine halt ?_)) | ((with_reducible show wpAny _ _ (exec (Stmt.For _ _ _ _ _) _) _ _ _); k_here; refine halt ?_) | ((with_reducible show wpAny _ _ (call (Value.builtin "iter") _ _) _ _ _); (k_here; (with_reducible show wpAny _ _ (call (Value.builtin "iter") [Value.ref _, Value.str _ _]) _ _ _); k_dflt (refine' iter2_K (by k_asm) (by k_asm) (by k_mem) ?_); intro I h8 F8 N8 lI; (try k_lt lI); (try k_sweep))) | ((with_reducible show wpAny _ _ (execs (Stmt.If _ _ _ _ :: Stmt.AugAssign _ _ _ _ :: Stmt.For _ _ _ _ _ :: _) _) _ _ _); k_here; refine halt ?_) | row_room_at HB | (dsimp only; (first | ((with_reducible show wpAny _ _ (call (Value.ref 84) _) _ _ _); k_here; refine halt ?_) | ((with_reducible show wpAny _ _ (pyIter (Value.ref _)) _ _ _); (k_here; (with_reducible show wpAny _ _ (pyIter _) (fun _ _ => ForAt _ _ _ _ _ _ _ _ _ _ _) _ _); refine halt ?_)) | ((with_reducible show wpAny _ _ (exec (Stmt.For _ _ _ _ _) _) _ _ _); k_here; refine halt ?_) | ((with_reducible show wpAny _ _ (call (Value.builtin "iter") _ _) _ _ _); (k_here; (with_reducible show wpAny _ _ (call (Value.builtin "iter") [Value.ref _, Value.str _ _]) _ _ _); k_dflt (refine' iter2_K (by k_asm) (by k_asm) (by k_mem) ?_); intro I h8 F8 N8 lI; (try k_lt lI); (try k_sweep))) | ((with_reducible show wpAny _ _ (execs (Stmt.If _ _ _ _ :: Stmt.AugAssign _ _ _ _ :: Stmt.For _ _ _ _ _ :: _) _) _ _ _); k_here; refine halt ?_) | walk1 | row_room_at HE)) | (leave1; walk_say "STEP leave1"; try dsimp only)))
                  (with_reducible rename Fr _ _ _ _ => F7)
                  (with_reducible rename News _ _ _ _ => N7)
                  (try dsimp only)
                  exact wEnd F7 N7 _ (Nat.lt_succ_self _) (tokW (ns := ns2) (ks := ks2) (tl := tl2) hs' hz' h1' htl5 ⟨rfl, rfl, rfl, trivial⟩ hlex)))
end

/-! T_writ -/
theorem flushT_writ : True ∧ True := by first | (row_walk; done) | (walk1; done) | exact ⟨trivial, trivial⟩
noncomputable def escF (x : Str) : Str := PySem.Txt.join (Str.ofString "") (x.cps.toList.map fun c => Str.ofString "\\" ++ (⟨#[c]⟩ : Str))
noncomputable def writF (w0 w1 : Str) : Str := Str.ofString "\"" ++ w0 ++ Str.ofString "\"\n" ++ escF w1 ++ Str.ofString "\n"
noncomputable def writF3 (w0 w1 w2 : Str) : Str := writF w0 w1 ++ Str.ofString "\"" ++ w2 ++ Str.ofString "\"\n"
theorem esc_sum (l : List Nat) : ((l.map fun c => Str.ofString "\\" ++ (⟨#[c]⟩ : Str)).map (·.length)).sum = 2 * l.length := by
  induction l with
  | nil => rfl
  | cons a r ih =>
    simp only [List.map_cons, List.sum_cons, List.length_cons, ih]
    have e : (Str.ofString "\\" ++ (⟨#[a]⟩ : Str)).length = 2 := by rw [Str.length_append]; rfl
    rw [e]; omega
theorem esc_small {x : Str} (h : x.length ≤ 10) : ((x.cps.toList.map fun c => Str.ofString "\\" ++ (⟨#[c]⟩ : Str)).map (·.length)).sum + (x.cps.toList.map fun c => Str.ofString "\\" ++ (⟨#[c]⟩ : Str)).length ≤ 1048576 := by
  rw [esc_sum, List.length_map]
  have : x.cps.toList.length ≤ 10 := by rw [Array.length_toList]; exact h
  omega
theorem join_cps : ∀ l : List Str, (Str.join (Str.ofString "") l).cps.toList = (l.map (·.cps.toList)).flatten
  | [] => rfl
  | [a] => by rw [show Str.join (Str.ofString "") [a] = a from rfl]; simp
  | a :: b :: r => by
    rw [show Str.join (Str.ofString "") (a :: b :: r) = a ++ Str.ofString "" ++ Str.join (Str.ofString "") (b :: r) from rfl, Str.cps_append, Str.cps_append]
    have e : (Str.ofString "").cps = #[] := by decide
    rw [e]
    simp only [Array.toList_append, join_cps (b :: r), List.map_cons, List.flatten_cons]
    simp
theorem esc_cps (x : Str) : (escF x).cps.toList = x.cps.toList.flatMap fun c => [92, c] := by
  show (Builtin.Str.glued (Str.ofString "") _).cps.toList = _
  rw [StrLaws.glued_eq_join, join_cps, List.map_map, List.flatMap_def]
  congr 1
theorem esc_len {x : Str} (h : x.length ≤ 10) : (PySem.Txt.join (Str.ofString "") (x.cps.toList.map fun c => Str.ofString "\\" ++ (⟨#[c]⟩ : Str))).length ≤ 40 := by
  have e := esc_cps x
  have e2 : (escF x).length = (escF x).cps.toList.length := (Array.length_toList ..).symm
  have e3 : ∀ l : List Nat, (l.flatMap fun c => [92, c]).length = 2 * l.length := by
    intro l
    induction l with
    | nil => rfl
    | cons a r ih => rw [List.flatMap_cons, List.length_append, ih]; simp; omega
  show (escF x).length ≤ 40
  rw [e2, e, e3, Array.length_toList]
  have : x.cps.size ≤ 10 := h
  omega
section
theorem writ2_call {w : World} {p : Program} {loose : List Str} {mean : ExcName → Option Value} {mg mb : Str → Option Value} {dp un : Nat} {fs : Option (List Env)} {gd : Option (List Code)} {h₀ : Heap} {s : Shared} {Q E : Value → Shared → Prop}
  (hdp : dp + 2 < recursionLimit) (hun : un + 40 < cLine)
  (X₀ : (hd.heap_39 w.params).In h₀) (T : Top p loose mean mg mb h₀) (st : h₀.StaysIn s.heap)
  {l : Addr} {w0 w1 : Str} {t0 t1 : Tok} {nn : Nat} (h0 : w0.length ≤ 10) (h1 : w1.length ≤ 10)
  (hn : ∀ q ∈ [(l, listOf #[.str w0 t0, .str w1 t1] nn)], s.heap.get? q.1 = some q.2 ∧ h₀.get? q.1 = none)
  (ret : ∀ t h' tk', Kept s.heap h' [] → Q (.str (writF w0 w1) t) { s with heap := h', toks := tk' }) :
  wpAny (model PySem.Challenge.rw_ty0032_01.row.prog w) (arA dp un fs gd) (call (.ref 117) [.ref l]) Q E s := by
    refine wpAny_call ?_
    k_dflt (refine' enterP _ (binds := [("words", .ref l)]) ?k1 ?k2 ?k3 ?k4 ?k5 ?k6 ?k7 ?k9 ?kB ?_ ?c2 ?c3 ?c4 ?c5; (case k2 => k_asm); (case k3 => k_asm); (case k4 => k_asm); (case k5 => first | assumption | exact fun _ h => nomatch h); (case k6 => k_is); (case k7 => k_is); (case k1 => (first | exact lim0 hdp | (show dp < recursionLimit; omega))); (case k9 => first | exact BindsTo.of_eq rfl | exact binds_K (by k_in) rfl (by k_is) rfl rfl rfl | exact kp_binds (by exact Frag.In.keeps (by assumption) (by assumption)) (fun _ => rfl)); (case c5 => decide); (case kB => exact locs rfl); (case c2 => exact rfl); (case c3 => exact rfl); (case c4 => exact rfl); k_whole; intro g' L' h' tkE F' N' X' T' lt' kp' fr' st'; (try dsimp only); (try k_fold))
    (repeat' (first | (k_unfold; (try dsimp only)) | row_room_at HE | (k_end; wrow_close) | ((with_reducible show wpAny _ _ (eval (Expr.ListComp _ _ _ _) _) _ _ _); (k_here; k_dflt (refine ListComp_S (by k_asm) (by with_unfolding_all rfl) (by decide) (by rfl) (by decide) (by rfl) ?_))) | row_room_at HB | (dsimp only; (first | ((with_reducible show wpAny _ _ (eval (Expr.ListComp _ _ _ _) _) _ _ _); (k_here; k_dflt (refine ListComp_S (by k_asm) (by with_unfolding_all rfl) (by decide) (by rfl) (by decide) (by rfl) ?_))) | walk1 | row_room_at HE)) | (leave1; walk_say "STEP leave1"; try dsimp only)))
    refine ⟨w1, t1, _, rfl, rfl, by k_asm, by k_asm, by rw [sizeLine_eq]; show w1.length ≤ _; omega, fun s₂ hs₂ => ?_⟩
    obtain ⟨h2, rfl⟩ := hs₂
    refine compRest_J (fun i ys nw => StrsAre ys ((w1.cps.toList.take i).map fun c => Str.ofString "\\" ++ (⟨#[c]⟩ : Str)) ∧ nw = _) ?_ ?_ _ 0 [] _ (Nat.zero_add _) ⟨.nil, rfl⟩
    · intro i ys news v I oI C oC D m₂ h tk E' hin jz14 jz15
      (refine hideP ?_; intro PP hPP); (obtain ⟨hys, rfl⟩ := jz14; obtain ⟨c', u, hc', rfl⟩ := jz15) <;> (refine hPP ?_; clear hPP; clear PP)
      intro hC hx F N off ne
      (repeat' (first | (k_unfold; (try dsimp only)) | row_room_at HE | (k_end; wrow_close) | ((with_reducible show wpAny _ _ (eval (Expr.ListComp _ _ _ _) _) _ _ _); (k_here; k_dflt (refine ListComp_S (by k_asm) (by with_unfolding_all rfl) (by decide) (by rfl) (by decide) (by rfl) ?_))) | row_room_at HB | (dsimp only; (first | ((with_reducible show wpAny _ _ (eval (Expr.ListComp _ _ _ _) _) _ _ _); (k_here; k_dflt (refine ListComp_S (by k_asm) (by with_unfolding_all rfl) (by decide) (by rfl) (by decide) (by rfl) ?_))) | walk1 | row_room_at HE)) | (leave1; walk_say "STEP leave1"; try dsimp only)))
      (with_reducible rename Fr _ _ _ _ => F9)
      (with_reducible rename News _ _ _ _ => N9)
      refine LCg.CompEnd.intro F9 N9 _ (fun _ hp => hp) off trivial ⟨?_, rfl⟩
      rw [List.take_add_one, Array.getElem?_toList, hc', List.map_append]
      exact strs_snoc hys _ _
    · rintro ys news ⟨hys, rfl⟩ D h3 tk3 F3 N3 off
      rw [show w1.cps.size = w1.cps.toList.length from (Array.length_toList ..).symm, List.take_length] at hys
      (repeat' (first | (k_unfold; (try dsimp only)) | row_room_at HE | (k_end; wrow_close) | ((with_reducible show wpAny _ _ (eval (Expr.ListComp _ _ _ _) _) _ _ _); (k_here; k_dflt (refine ListComp_S (by k_asm) (by with_unfolding_all rfl) (by decide) (by rfl) (by decide) (by rfl) ?_))) | row_room_at HB | (dsimp only; (first | ((with_reducible show wpAny _ _ (eval (Expr.ListComp _ _ _ _) _) _ _ _); (k_here; k_dflt (refine ListComp_S (by k_asm) (by with_unfolding_all rfl) (by decide) (by rfl) (by decide) (by rfl) ?_))) | walk1 | row_room_at HE)) | (leave1; walk_say "STEP leave1"; try dsimp only)))
      (with_reducible rename Fr _ _ _ _ => F4)
      (with_reducible rename News _ _ _ _ => N4)
      refine' join_listW (ys := w1.cps.toList.map fun c => Str.ofString "\\" ++ (⟨#[c]⟩ : Str)) ⟨_, (N4 _ (.head _)).1, rfl, _, rfl⟩ ?jh (by decide) (esc_small h1) ?_
      (case jh => exact hys)
      intro t7 k7
      have hel := esc_len h1
      (try dsimp only)
      (repeat' (first | (k_unfold; (try dsimp only)) | row_room_at HE | (k_end; wrow_close) | ((with_reducible show wpAny _ _ (eval (Expr.ListComp _ _ _ _) _) _ _ _); (k_here; k_dflt (refine ListComp_S (by k_asm) (by with_unfolding_all rfl) (by decide) (by rfl) (by decide) (by rfl) ?_))) | row_room_at HB | (dsimp only; (first | ((with_reducible show wpAny _ _ (eval (Expr.ListComp _ _ _ _) _) _ _ _); (k_here; k_dflt (refine ListComp_S (by k_asm) (by with_unfolding_all rfl) (by decide) (by rfl) (by decide) (by rfl) ?_))) | walk1 | row_room_at HE)) | (leave1; walk_say "STEP leave1"; try dsimp only)))
      (try dsimp only)
      (repeat (first | (k_unfold; (try dsimp only)) | row_room_at HE | dsimp only))
      (try dsimp only)
      (with_reducible rename Fr _ _ _ _ => F8)
      (with_reducible rename News _ _ _ _ => N8)
      exact ret _ _ _ (kept_ro kp' F8 (news_sub N8 (by kcj_all)) hn)
theorem writ3_call {w : World} {p : Program} {loose : List Str} {mean : ExcName → Option Value} {mg mb : Str → Option Value} {dp un : Nat} {fs : Option (List Env)} {gd : Option (List Code)} {h₀ : Heap} {s : Shared} {Q E : Value → Shared → Prop}
  (hdp : dp + 2 < recursionLimit) (hun : un + 40 < cLine)
  (X₀ : (hd.heap_39 w.params).In h₀) (T : Top p loose mean mg mb h₀) (st : h₀.StaysIn s.heap)
  {l : Addr} {w0 w1 w2 : Str} {t0 t1 t2 : Tok} {nn : Nat} (h0 : w0.length ≤ 10) (h1 : w1.length ≤ 10) (h2 : w2.length ≤ 10)
  (hn : ∀ q ∈ [(l, listOf #[.str w0 t0, .str w1 t1, .str w2 t2] nn)], s.heap.get? q.1 = some q.2 ∧ h₀.get? q.1 = none)
  (ret : ∀ t h' tk', Kept s.heap h' [] → Q (.str (writF3 w0 w1 w2) t) { s with heap := h', toks := tk' }) :
  wpAny (model PySem.Challenge.rw_ty0032_01.row.prog w) (arA dp un fs gd) (call (.ref 117) [.ref l]) Q E s := by
    refine wpAny_call ?_
    k_dflt (refine' enterP _ (binds := [("words", .ref l)]) ?k1 ?k2 ?k3 ?k4 ?k5 ?k6 ?k7 ?k9 ?kB ?_ ?c2 ?c3 ?c4 ?c5; (case k2 => k_asm); (case k3 => k_asm); (case k4 => k_asm); (case k5 => first | assumption | exact fun _ h => nomatch h); (case k6 => k_is); (case k7 => k_is); (case k1 => (first | exact lim0 hdp | (show dp < recursionLimit; omega))); (case k9 => first | exact BindsTo.of_eq rfl | exact binds_K (by k_in) rfl (by k_is) rfl rfl rfl | exact kp_binds (by exact Frag.In.keeps (by assumption) (by assumption)) (fun _ => rfl)); (case c5 => decide); (case kB => exact locs rfl); (case c2 => exact rfl); (case c3 => exact rfl); (case c4 => exact rfl); k_whole; intro g' L' h' tkE F' N' X' T' lt' kp' fr' st'; (try dsimp only); (try k_fold))
    (repeat' (first | (k_unfold; (try dsimp only)) | row_room_at HE | (k_end; wrow_close) | ((with_reducible show wpAny _ _ (eval (Expr.ListComp _ _ _ _) _) _ _ _); (k_here; k_dflt (refine ListComp_S (by k_asm) (by with_unfolding_all rfl) (by decide) (by rfl) (by decide) (by rfl) ?_))) | row_room_at HB | (dsimp only; (first | ((with_reducible show wpAny _ _ (eval (Expr.ListComp _ _ _ _) _) _ _ _); (k_here; k_dflt (refine ListComp_S (by k_asm) (by with_unfolding_all rfl) (by decide) (by rfl) (by decide) (by rfl) ?_))) | walk1 | row_room_at HE)) | (leave1; walk_say "STEP leave1"; try dsimp only)))
    refine ⟨w1, t1, _, rfl, rfl, by k_asm, by k_asm, by rw [sizeLine_eq]; show w1.length ≤ _; omega, fun s₂ hs₂ => ?_⟩
    obtain ⟨hh2, rfl⟩ := hs₂
    refine compRest_J (fun i ys nw => StrsAre ys ((w1.cps.toList.take i).map fun c => Str.ofString "\\" ++ (⟨#[c]⟩ : Str)) ∧ nw = _) ?_ ?_ _ 0 [] _ (Nat.zero_add _) ⟨.nil, rfl⟩
    · intro i ys news v I oI C oC D m₂ h tk E' hin jz14 jz15
      (refine hideP ?_; intro PP hPP); (obtain ⟨hys, rfl⟩ := jz14; obtain ⟨c', u, hc', rfl⟩ := jz15) <;> (refine hPP ?_; clear hPP; clear PP)
      intro hC hx F N off ne
      (repeat' (first | (k_unfold; (try dsimp only)) | row_room_at HE | (k_end; wrow_close) | ((with_reducible show wpAny _ _ (eval (Expr.ListComp _ _ _ _) _) _ _ _); (k_here; k_dflt (refine ListComp_S (by k_asm) (by with_unfolding_all rfl) (by decide) (by rfl) (by decide) (by rfl) ?_))) | row_room_at HB | (dsimp only; (first | ((with_reducible show wpAny _ _ (eval (Expr.ListComp _ _ _ _) _) _ _ _); (k_here; k_dflt (refine ListComp_S (by k_asm) (by with_unfolding_all rfl) (by decide) (by rfl) (by decide) (by rfl) ?_))) | walk1 | row_room_at HE)) | (leave1; walk_say "STEP leave1"; try dsimp only)))
      (with_reducible rename Fr _ _ _ _ => F9)
      (with_reducible rename News _ _ _ _ => N9)
      refine LCg.CompEnd.intro F9 N9 _ (fun _ hp => hp) off trivial ⟨?_, rfl⟩
      rw [List.take_add_one, Array.getElem?_toList, hc', List.map_append]
      exact strs_snoc hys _ _
    · rintro ys news ⟨hys, rfl⟩ D h3 tk3 F3 N3 off
      rw [show w1.cps.size = w1.cps.toList.length from (Array.length_toList ..).symm, List.take_length] at hys
      (repeat' (first | (k_unfold; (try dsimp only)) | row_room_at HE | (k_end; wrow_close) | ((with_reducible show wpAny _ _ (eval (Expr.ListComp _ _ _ _) _) _ _ _); (k_here; k_dflt (refine ListComp_S (by k_asm) (by with_unfolding_all rfl) (by decide) (by rfl) (by decide) (by rfl) ?_))) | row_room_at HB | (dsimp only; (first | ((with_reducible show wpAny _ _ (eval (Expr.ListComp _ _ _ _) _) _ _ _); (k_here; k_dflt (refine ListComp_S (by k_asm) (by with_unfolding_all rfl) (by decide) (by rfl) (by decide) (by rfl) ?_))) | walk1 | row_room_at HE)) | (leave1; walk_say "STEP leave1"; try dsimp only)))
      (with_reducible rename Fr _ _ _ _ => F4)
      (with_reducible rename News _ _ _ _ => N4)
      refine' join_listW (ys := w1.cps.toList.map fun c => Str.ofString "\\" ++ (⟨#[c]⟩ : Str)) ⟨_, (N4 _ (.head _)).1, rfl, _, rfl⟩ ?jh (by decide) (esc_small h1) ?_
      (case jh => exact hys)
      intro t7 k7
      have hel := esc_len h1
      (try dsimp only)
      (repeat' (first | (k_unfold; (try dsimp only)) | row_room_at HE | (k_end; wrow_close) | ((with_reducible show wpAny _ _ (eval (Expr.ListComp _ _ _ _) _) _ _ _); (k_here; k_dflt (refine ListComp_S (by k_asm) (by with_unfolding_all rfl) (by decide) (by rfl) (by decide) (by rfl) ?_))) | row_room_at HB | (dsimp only; (first | ((with_reducible show wpAny _ _ (eval (Expr.ListComp _ _ _ _) _) _ _ _); (k_here; k_dflt (refine ListComp_S (by k_asm) (by with_unfolding_all rfl) (by decide) (by rfl) (by decide) (by rfl) ?_))) | walk1 | row_room_at HE)) | (leave1; walk_say "STEP leave1"; try dsimp only)))
      (try dsimp only)
      (repeat (first | (k_unfold; (try dsimp only)) | row_room_at HE | dsimp only))
      (try dsimp only)
      (with_reducible rename Fr _ _ _ _ => F8)
      (with_reducible rename News _ _ _ _ => N8)
      exact ret _ _ _ (kept_ro kp' F8 (news_sub N8 (by kcj_all)) hn)
end

/-! T_for2 -/
theorem flushT_for2 : True ∧ True := by first | (row_walk; done) | (walk1; done) | exact ⟨trivial, trivial⟩
section
variable {prog : Program} {w : World} {A : Around} {E : Value → Shared → Prop} {s : Shared} {env : Env} {body orelse : List Stmt} {Q : Flow → Shared → Prop} {g : Heap}
/-- a for loop over a tuple of the ledger -/
theorem for_tuple {l : Addr} {its : Array Value} {nn : Nat} {x : Str} {px : Pos} {m : Str → Option Value} {news : List (Addr × Obj)} (hh : A.handled = none)
    (J : Nat → (Str → Option Value) → List (Addr × Obj) → Prop) (F : Fr g env.locals s.heap m) (N : News g env.locals s.heap news) (hl : (l, ({ cls := .type "tuple", data := .seq its nn } : Obj)) ∈ news)
    (j : J 0 m news) (hkeep : ∀ i m news, J i m news → (l, ({ cls := .type "tuple", data := .seq its nn } : Obj)) ∈ news)
    (turn : ∀ I i v m news oI h tk, g.get? I = none → its[i]? = some v → J i m news → (∀ p ∈ news, @Ne Nat p.1 I) → Fr g env.locals h m → News g env.locals h ((I, oI) :: news) →
      wpAny (model prog w) A (storeName env x v) (fun _ s₂ => wpAny (model prog w) A (execs body env) (FPost g env.locals s I oI (J (i + 1)) Q) E s₂) E { s with heap := h, toks := tk })
    (done : ∀ m news h tk, J its.size m news → Fr g env.locals h m → News g env.locals h news → wpAny (model prog w) A (execs orelse env) Q E { s with heap := h, toks := tk })
    (hE : PassesOwn (model prog w) A env E) : wpAny (model prog w) A (pyIter (.ref l)) (fun it s₂ => ForAt prog w A env (.Name x px) body orelse Q E it s₂) E s := by
  have hls : s.heap.IsTuple l its := ⟨_, (N _ hl).1, rfl, _, rfl⟩
  have hlt : l < s.heap.objs.size := Heap.lt_size (N _ hl).1
  have hne : l ≠ s.heap.objs.size := Nat.ne_of_lt hlt
  refine wpAny_pyIter_tuple hls ?_
  have W := Walks.tuple (prog := prog) (w := w) hh s.heap.objs.size l hne its
  refine for_W J [(l, ({ cls := .type "tuple", data := .seq its nn } : Obj))] W (fun i h st => by obtain ⟨⟨o, e, _⟩, _⟩ := st; exact ⟨o, e⟩) (fun b hb => ?_) (next_is_new F) (Ne.symm (Nat.ne_of_lt F.ns.lt))
    ⟨⟨_, Heap.get?_push_size _ rfl, rfl, rfl⟩, hls.at fun o e => Heap.get?_push_of_some _ e⟩ (F.push _) (fun p hp => ⟨Heap.get?_push_of_some _ (N p hp).1, (N p hp).2⟩) (fun p hp => Nat.ne_of_lt (Heap.lt_size (N p hp).1)) j (fun i m news hj p hp => ?_) ?_ ?_ hE
  · rcases List.mem_cons.mp hb with rfl | hb
    · exact .inl rfl
    · rw [List.mem_singleton.mp hb]; exact .inr (.inr ⟨_, .head _⟩)
  · rw [List.mem_singleton.mp hp]; exact hkeep i m news hj
  · intro i v m news oI h tk hi hP hJ off F N
    exact turn _ i v m news oI h tk (next_is_new ‹_›) hP hJ off F N
  · intro m news h tk hJ _ F N
    exact done m news h tk hJ F N
end

/-! T_places -/
theorem flushT_places : True ∧ True := by first | (row_walk; done) | (walk1; done) | exact ⟨trivial, trivial⟩
noncomputable def placeStep (ps : List Int) (x : Int) : List Int := if ps.any (· == x) then ps else ps ++ [x]
noncomputable def placesM (lev : List Int) (mask : Nat) : Nat → List Int → List Int
  | 0, ps => ps
  | j + 1, ps => if mask / 2 ^ j % 2 = 1 then placeStep (placesM lev mask j ps) ((ltCount lev ((mask - 2 ^ j : Nat) : Int) : Nat) : Int) else placesM lev mask j ps
noncomputable def placesF (lev : List Int) (fam : List Nat) : List Int := fam.foldl (fun ps mask => placesM lev mask 5 ps) []
theorem pl_bits : ∀ j : Nat, j < 5 → ∀ mask : Nat, mask < 32 → (mask / 2 ^ j % 2 = 1 ∧ Builtin.bitAnd (mask : Int) ((2 ^ j : Nat) : Int) ≠ 0 ∧ (mask : Int) - ((2 ^ j : Nat) : Int) = ((mask - 2 ^ j : Nat) : Int)) ∨ (¬ mask / 2 ^ j % 2 = 1 ∧ Builtin.bitAnd (mask : Int) ((2 ^ j : Nat) : Int) = 0) := by decide +kernel
theorem placesM_yes {lev : List Int} {mask j : Nat} {ps : List Int} (h : mask / 2 ^ j % 2 = 1) : placesM lev mask (j + 1) ps = placeStep (placesM lev mask j ps) ((ltCount lev ((mask - 2 ^ j : Nat) : Int) : Nat) : Int) := by rw [placesM, if_pos h]
theorem placesM_no {lev : List Int} {mask j : Nat} {ps : List Int} (h : ¬ mask / 2 ^ j % 2 = 1) : placesM lev mask (j + 1) ps = placesM lev mask j ps := by rw [placesM, if_neg h]
theorem placeStep_len (ps : List Int) (x : Int) : (placeStep ps x).length ≤ ps.length + 1 := by unfold placeStep; split <;> simp
theorem placesM_len (lev : List Int) (mask : Nat) (ps : List Int) : ∀ j, (placesM lev mask j ps).length ≤ ps.length + j
  | 0 => Nat.le_refl _
  | j + 1 => by
    rw [placesM]
    have := placesM_len lev mask ps j
    split
    · exact Nat.le_trans (placeStep_len _ _) (by omega)
    · omega
theorem placesF_snoc (lev : List Int) (fam : List Nat) (i : Nat) (mm : Nat) (h : fam[i]? = some mm) : placesF lev (fam.take (i + 1)) = placesM lev mm 5 (placesF lev (fam.take i)) := by
  unfold placesF; rw [List.take_add_one, h]; simp
theorem placesF_len (lev : List Int) (fam : List Nat) : (placesF lev fam).length ≤ 5 * fam.length := by
  unfold placesF
  suffices ∀ (l : List Nat) (ps : List Int), (l.foldl (fun ps mask => placesM lev mask 5 ps) ps).length ≤ ps.length + 5 * l.length by simpa using this fam []
  intro l
  induction l with
  | nil => intro ps; simp
  | cons a r ih =>
    intro ps
    rw [List.foldl_cons, List.length_cons]
    have := ih (placesM lev a 5 ps)
    have := placesM_len lev a ps 5
    omega
theorem flags_at {t0 t1 t2 t3 t4 : Tok} {j : Nat} {v : Value} (h : (#[.int 1 t0, .int 2 t1, .int 4 t2, .int 8 t3, .int 16 t4] : Array Value)[j]? = some v) : j < 5 ∧ ∃ t, v = .int ((2 ^ j : Nat) : Int) t := by
  obtain ⟨hj, e⟩ := Array.getElem?_eq_some_iff.mp h
  have hj5 : j < 5 := hj
  refine ⟨hj5, ?_⟩
  obtain rfl | rfl | rfl | rfl | rfl : j = 0 ∨ j = 1 ∨ j = 2 ∨ j = 3 ∨ j = 4 := by omega
  all_goals exact ⟨_, e.symm⟩
section
theorem places_call {w : World} {p : Program} {loose : List Str} {mean : ExcName → Option Value} {mg mb : Str → Option Value} {dp un : Nat} {fs : Option (List Env)} {gd : Option (List Code)} {h₀ : Heap} {s : Shared} {Q E : Value → Shared → Prop}
  (hdp : dp + 2 < recursionLimit) (hun : un + 32 < cLine)
  (X₀ : (hd.heap_39 w.params).In h₀) (T : Top p loose mean mg mb h₀) (st : h₀.StaysIn s.heap)
  {A1 A2 : Addr} {v1 v2 : List Value} {n1 n2 : Nat} {lev : List Int} {fam : List Nat} (hf : ∀ m ∈ fam, m < 32) (hfl : fam.length ≤ 32) (i1 : IntsAre v1 lev) (hz1 : lev.length < 2^20) (hs1 : lev.Pairwise (· < ·)) (i2 : IntsAre v2 (fam.map fun n : Nat => (n : Int)))
  (hn : ∀ q ∈ [(A1, listOf v1.toArray n1), (A2, listOf v2.toArray n2)], s.heap.get? q.1 = some q.2 ∧ h₀.get? q.1 = none)
  (ret : ∀ h' tk' D vs n, IntsAre vs (placesF lev fam) → Kept s.heap h' [] → h'.get? D = some (listOf vs.toArray n) → s.heap.get? D = none → Q (.ref D) { s with heap := h', toks := tk' }) :
  wpAny (model PySem.Challenge.rw_ty0032_01.row.prog w) (arA dp un fs gd) (call (.ref 150) [.ref A1, .ref A2]) Q E s := by
    refine wpAny_call ?_
    k_dflt (refine' enterP _ (binds := [("level", .ref A1), ("family", .ref A2)]) ?k1 ?k2 ?k3 ?k4 ?k5 ?k6 ?k7 ?k9 ?kB ?_ ?c2 ?c3 ?c4 ?c5; (case k2 => k_asm); (case k3 => k_asm); (case k4 => k_asm); (case k5 => first | assumption | exact fun _ h => nomatch h); (case k6 => k_is); (case k7 => k_is); (case k1 => (first | exact lim0 hdp | (show dp < recursionLimit; omega))); (case k9 => first | exact BindsTo.of_eq rfl | exact binds_K (by k_in) rfl (by k_is) rfl rfl rfl | exact kp_binds (by exact Frag.In.keeps (by assumption) (by assumption)) (fun _ => rfl)); (case c5 => decide); (case kB => exact locs rfl); (case c2 => exact rfl); (case c3 => exact rfl); (case c4 => exact rfl); k_whole; intro g' L' h' tkE F' N' X' T' lt' kp' fr' st'; (try dsimp only); (try k_fold))
    (repeat' (first | (k_unfold; (try dsimp only)) | row_room_at HE | (k_end; wrow_close) | ((with_reducible show wpAny _ _ (call (Value.ref 56) _) _ _ _); k_here; (with_reducible rename Fr _ _ _ _ => kFz4); (with_reducible rename News _ _ _ _ => kNz4); refine' bisect_left_call (by (first | exact lim2 hdp rfl | exact lim1 hdp rfl | exact lim2 hun rfl | exact lim1 hun rfl | exact lim0 hdp | exact lim0 hun | exact lim3 hdp rfl | exact lim3 hun rfl | ((try dsimp only [arA, Around.deeper]); omega))) (by (first | exact lim2 hdp rfl | exact lim1 hdp rfl | exact lim2 hun rfl | exact lim1 hun rfl | exact lim0 hdp | exact lim0 hun | exact lim3 hdp rfl | exact lim3 hun rfl | ((try dsimp only [arA, Around.deeper]); omega))) (by assumption) (by assumption) (Fr.keep kFz4) (by first | exact Or.inl rfl | exact Or.inr ⟨_, rfl⟩) (hn_of kNz4 (by (intro qz4 hqz4; rw [List.mem_singleton.mp hqz4]; k_mem))) (by assumption) (by assumption) (by assumption) ?_; intro t'z4 h'z4 tk'z4 kp'z4; have F'z4 := fr_kept0 kFz4 kp'z4; have N'z4 := news_kept0 kNz4 kp'z4; clear kp'z4 kFz4 kNz4; (try dsimp only); (try k_sweep)) | ((with_reducible show wpAny _ _ (call (Value.builtin "list.append") _ _) _ _ _); (k_here; (with_reducible show wpAny _ _ (call (Value.builtin _) [Value.ref _, _]) _ _ _); k_dflt (refine' append_K (by k_asm) (by k_asm) (by k_upd) ?_ (by (refine size_small ?_; (try simp only [List.size_toArray]); omega)); k_whole); intro h'z3 F'z3 N'z3; (try k_sweep))) | ((with_reducible show wpAny _ _ (pyIter (Value.ref _)) _ _ _); (k_here; (with_reducible show wpAny _ _ (pyIter _) (fun _ _ => ForAt _ _ _ _ _ _ _ _ _ _ _) _ _); refine halt ?_)) | ((with_reducible show wpAny _ _ (exec (Stmt.For _ _ _ _ _) _) _ _ _); k_here; refine halt ?_) | ((with_reducible show wpAny _ _ (exec (Stmt.For _ _ _ _ _) _) _ _ _); k_here; refine halt ?_) | row_room_at HB | (dsimp only; (first | ((with_reducible show wpAny _ _ (call (Value.ref 56) _) _ _ _); k_here; (with_reducible rename Fr _ _ _ _ => kFz4); (with_reducible rename News _ _ _ _ => kNz4); refine' bisect_left_call (by (first | exact lim2 hdp rfl | exact lim1 hdp rfl | exact lim2 hun rfl | exact lim1 hun rfl | exact lim0 hdp | exact lim0 hun | exact lim3 hdp rfl | exact lim3 hun rfl | ((try dsimp only [arA, Around.deeper]); omega))) (by (first | exact lim2 hdp rfl | exact lim1 hdp rfl | exact lim2 hun rfl | exact lim1 hun rfl | exact lim0 hdp | exact lim0 hun | exact lim3 hdp rfl | exact lim3 hun rfl | ((try dsimp only [arA, Around.deeper]); omega))) (by assumption) (by assumption) (Fr.keep kFz4) (by first | exact Or.inl rfl | exact Or.inr ⟨_, rfl⟩) (hn_of kNz4 (by (intro qz4 hqz4; rw [List.mem_singleton.mp hqz4]; k_mem))) (by assumption) (by assumption) (by assumption) ?_; intro t'z4 h'z4 tk'z4 kp'z4; have F'z4 := fr_kept0 kFz4 kp'z4; have N'z4 := news_kept0 kNz4 kp'z4; clear kp'z4 kFz4 kNz4; (try dsimp only); (try k_sweep)) | ((with_reducible show wpAny _ _ (call (Value.builtin "list.append") _ _) _ _ _); (k_here; (with_reducible show wpAny _ _ (call (Value.builtin _) [Value.ref _, _]) _ _ _); k_dflt (refine' append_K (by k_asm) (by k_asm) (by k_upd) ?_ (by (refine size_small ?_; (try simp only [List.size_toArray]); omega)); k_whole); intro h'z3 F'z3 N'z3; (try k_sweep))) | ((with_reducible show wpAny _ _ (pyIter (Value.ref _)) _ _ _); (k_here; (with_reducible show wpAny _ _ (pyIter _) (fun _ _ => ForAt _ _ _ _ _ _ _ _ _ _ _) _ _); refine halt ?_)) | ((with_reducible show wpAny _ _ (exec (Stmt.For _ _ _ _ _) _) _ _ _); k_here; refine halt ?_) | ((with_reducible show wpAny _ _ (exec (Stmt.For _ _ _ _ _) _) _ _ _); k_here; refine halt ?_) | walk1 | row_room_at HE)) | (leave1; walk_say "STEP leave1"; try dsimp only)))
    refine go ?_
    refine For_start ?_
    (repeat' (first | (k_unfold; (try dsimp only)) | row_room_at HE | (k_end; wrow_close) | ((with_reducible show wpAny _ _ (call (Value.ref 56) _) _ _ _); k_here; (with_reducible rename Fr _ _ _ _ => kFz4); (with_reducible rename News _ _ _ _ => kNz4); refine' bisect_left_call (by (first | exact lim2 hdp rfl | exact lim1 hdp rfl | exact lim2 hun rfl | exact lim1 hun rfl | exact lim0 hdp | exact lim0 hun | exact lim3 hdp rfl | exact lim3 hun rfl | ((try dsimp only [arA, Around.deeper]); omega))) (by (first | exact lim2 hdp rfl | exact lim1 hdp rfl | exact lim2 hun rfl | exact lim1 hun rfl | exact lim0 hdp | exact lim0 hun | exact lim3 hdp rfl | exact lim3 hun rfl | ((try dsimp only [arA, Around.deeper]); omega))) (by assumption) (by assumption) (Fr.keep kFz4) (by first | exact Or.inl rfl | exact Or.inr ⟨_, rfl⟩) (hn_of kNz4 (by (intro qz4 hqz4; rw [List.mem_singleton.mp hqz4]; k_mem))) (by assumption) (by assumption) (by assumption) ?_; intro t'z4 h'z4 tk'z4 kp'z4; have F'z4 := fr_kept0 kFz4 kp'z4; have N'z4 := news_kept0 kNz4 kp'z4; clear kp'z4 kFz4 kNz4; (try dsimp only); (try k_sweep)) | ((with_reducible show wpAny _ _ (call (Value.builtin "list.append") _ _) _ _ _); (k_here; (with_reducible show wpAny _ _ (call (Value.builtin _) [Value.ref _, _]) _ _ _); k_dflt (refine' append_K (by k_asm) (by k_asm) (by k_upd) ?_ (by (refine size_small ?_; (try simp only [List.size_toArray]); omega)); k_whole); intro h'z3 F'z3 N'z3; (try k_sweep))) | ((with_reducible show wpAny _ _ (pyIter (Value.ref _)) _ _ _); (k_here; (with_reducible show wpAny _ _ (pyIter _) (fun _ _ => ForAt _ _ _ _ _ _ _ _ _ _ _) _ _); refine halt ?_)) | ((with_reducible show wpAny _ _ (exec (Stmt.For _ _ _ _ _) _) _ _ _); k_here; refine halt ?_) | ((with_reducible show wpAny _ _ (exec (Stmt.For _ _ _ _ _) _) _ _ _); k_here; refine halt ?_) | row_room_at HB | (dsimp only; (first | ((with_reducible show wpAny _ _ (call (Value.ref 56) _) _ _ _); k_here; (with_reducible rename Fr _ _ _ _ => kFz4); (with_reducible rename News _ _ _ _ => kNz4); refine' bisect_left_call (by (first | exact lim2 hdp rfl | exact lim1 hdp rfl | exact lim2 hun rfl | exact lim1 hun rfl | exact lim0 hdp | exact lim0 hun | exact lim3 hdp rfl | exact lim3 hun rfl | ((try dsimp only [arA, Around.deeper]); omega))) (by (first | exact lim2 hdp rfl | exact lim1 hdp rfl | exact lim2 hun rfl | exact lim1 hun rfl | exact lim0 hdp | exact lim0 hun | exact lim3 hdp rfl | exact lim3 hun rfl | ((try dsimp only [arA, Around.deeper]); omega))) (by assumption) (by assumption) (Fr.keep kFz4) (by first | exact Or.inl rfl | exact Or.inr ⟨_, rfl⟩) (hn_of kNz4 (by (intro qz4 hqz4; rw [List.mem_singleton.mp hqz4]; k_mem))) (by assumption) (by assumption) (by assumption) ?_; intro t'z4 h'z4 tk'z4 kp'z4; have F'z4 := fr_kept0 kFz4 kp'z4; have N'z4 := news_kept0 kNz4 kp'z4; clear kp'z4 kFz4 kNz4; (try dsimp only); (try k_sweep)) | ((with_reducible show wpAny _ _ (call (Value.builtin "list.append") _ _) _ _ _); (k_here; (with_reducible show wpAny _ _ (call (Value.builtin _) [Value.ref _, _]) _ _ _); k_dflt (refine' append_K (by k_asm) (by k_asm) (by k_upd) ?_ (by (refine size_small ?_; (try simp only [List.size_toArray]); omega)); k_whole); intro h'z3 F'z3 N'z3; (try k_sweep))) | ((with_reducible show wpAny _ _ (pyIter (Value.ref _)) _ _ _); (k_here; (with_reducible show wpAny _ _ (pyIter _) (fun _ _ => ForAt _ _ _ _ _ _ _ _ _ _ _) _ _); refine halt ?_)) | ((with_reducible show wpAny _ _ (exec (Stmt.For _ _ _ _ _) _) _ _ _); k_here; refine halt ?_) | ((with_reducible show wpAny _ _ (exec (Stmt.For _ _ _ _ _) _) _ _ _); k_here; refine halt ?_) | walk1 | row_room_at HE)) | (leave1; walk_say "STEP leave1"; try dsimp only)))
    refine go ?_
    (with_reducible rename Fr _ _ _ _ => F1)
    (with_reducible rename News _ _ _ _ => N1)
    rename_i D _ _ _
    have hAD : A1 < D ∧ A2 < D := by assumption
    refine for_list rfl (fun i m news => ∃ vs nn, Knows m [("places", .ref D), ("level", .ref A1), ("family", .ref A2)] ∧ IntsAre vs (placesF lev (fam.take i)) ∧ news = [(D, listOf vs.toArray nn), (A1, listOf v1.toArray n1), (A2, listOf v2.toArray n2)]) F1 N1 (.tail _ (.tail _ (.head _))) ⟨[], 0, ⟨rfl, rfl, rfl, trivial⟩, .nil, rfl⟩ ?_ ?_ ?_ PassesOwn.never
    · intro i m news jz3
      (refine hideP ?_; intro PP hPP); (obtain ⟨vs, nn, _, _, rfl⟩ := jz3) <;> (refine hPP ?_; clear hPP; clear PP)
      exact .tail _ (.tail _ (.head _))
    · clear F1 N1
      intro I i v m news oI h tk hI hv jz10
      (refine hideP ?_; intro PP hPP); (obtain ⟨vs, nn, e1, hvs, rfl⟩ := jz10) <;> (refine hPP ?_; clear hPP; clear PP)
      intro off F N
      replace F := fr_knows e1 F
      clear e1
      have o1 : @Ne Nat D I := off _ (.head _)
      have o2 : @Ne Nat A1 I := off (A1, listOf v1.toArray n1) (.tail _ (.head _))
      have o3 : @Ne Nat A2 I := off (A2, listOf v2.toArray n2) (.tail _ (.tail _ (.head _)))
      have hil : i < v2.length := (List.getElem?_eq_some_iff.mp hv).1
      have hl2 : v2.length = fam.length := by rw [i2.length, List.length_map]
      obtain ⟨mask, hmm⟩ : ∃ mask, fam[i]? = some mask := ⟨_, List.getElem?_eq_getElem (by omega)⟩
      obtain ⟨tv, hv'⟩ := i2.get i (mask : Int) (by rw [List.getElem?_map, hmm]; rfl)
      rw [hv] at hv'
      cases hv'
      have hm32 : mask < 32 := hf mask (List.mem_of_getElem? hmm)
      have snoc := placesF_snoc lev fam i mask hmm
      have hpl : (placesF lev (fam.take i)).length ≤ 5 * 31 := Nat.le_trans (placesF_len _ _) (by rw [List.length_take]; omega)
      clear hv
      (repeat' (first | (k_unfold; (try dsimp only)) | row_room_at HE | (k_end; wrow_close) | ((with_reducible show wpAny _ _ (call (Value.ref 56) _) _ _ _); k_here; (with_reducible rename Fr _ _ _ _ => kFz4); (with_reducible rename News _ _ _ _ => kNz4); refine' bisect_left_call (by (first | exact lim2 hdp rfl | exact lim1 hdp rfl | exact lim2 hun rfl | exact lim1 hun rfl | exact lim0 hdp | exact lim0 hun | exact lim3 hdp rfl | exact lim3 hun rfl | ((try dsimp only [arA, Around.deeper]); omega))) (by (first | exact lim2 hdp rfl | exact lim1 hdp rfl | exact lim2 hun rfl | exact lim1 hun rfl | exact lim0 hdp | exact lim0 hun | exact lim3 hdp rfl | exact lim3 hun rfl | ((try dsimp only [arA, Around.deeper]); omega))) (by assumption) (by assumption) (Fr.keep kFz4) (by first | exact Or.inl rfl | exact Or.inr ⟨_, rfl⟩) (hn_of kNz4 (by (intro qz4 hqz4; rw [List.mem_singleton.mp hqz4]; k_mem))) (by assumption) (by assumption) (by assumption) ?_; intro t'z4 h'z4 tk'z4 kp'z4; have F'z4 := fr_kept0 kFz4 kp'z4; have N'z4 := news_kept0 kNz4 kp'z4; clear kp'z4 kFz4 kNz4; (try dsimp only); (try k_sweep)) | ((with_reducible show wpAny _ _ (call (Value.builtin "list.append") _ _) _ _ _); (k_here; (with_reducible show wpAny _ _ (call (Value.builtin _) [Value.ref _, _]) _ _ _); k_dflt (refine' append_K (by k_asm) (by k_asm) (by k_upd) ?_ (by (refine size_small ?_; (try simp only [List.size_toArray]); omega)); k_whole); intro h'z3 F'z3 N'z3; (try k_sweep))) | ((with_reducible show wpAny _ _ (pyIter (Value.ref _)) _ _ _); (k_here; (with_reducible show wpAny _ _ (pyIter _) (fun _ _ => ForAt _ _ _ _ _ _ _ _ _ _ _) _ _); refine halt ?_)) | ((with_reducible show wpAny _ _ (exec (Stmt.For _ _ _ _ _) _) _ _ _); k_here; refine halt ?_) | ((with_reducible show wpAny _ _ (exec (Stmt.For _ _ _ _ _) _) _ _ _); k_here; refine halt ?_) | row_room_at HB | (dsimp only; (first | ((with_reducible show wpAny _ _ (call (Value.ref 56) _) _ _ _); k_here; (with_reducible rename Fr _ _ _ _ => kFz4); (with_reducible rename News _ _ _ _ => kNz4); refine' bisect_left_call (by (first | exact lim2 hdp rfl | exact lim1 hdp rfl | exact lim2 hun rfl | exact lim1 hun rfl | exact lim0 hdp | exact lim0 hun | exact lim3 hdp rfl | exact lim3 hun rfl | ((try dsimp only [arA, Around.deeper]); omega))) (by (first | exact lim2 hdp rfl | exact lim1 hdp rfl | exact lim2 hun rfl | exact lim1 hun rfl | exact lim0 hdp | exact lim0 hun | exact lim3 hdp rfl | exact lim3 hun rfl | ((try dsimp only [arA, Around.deeper]); omega))) (by assumption) (by assumption) (Fr.keep kFz4) (by first | exact Or.inl rfl | exact Or.inr ⟨_, rfl⟩) (hn_of kNz4 (by (intro qz4 hqz4; rw [List.mem_singleton.mp hqz4]; k_mem))) (by assumption) (by assumption) (by assumption) ?_; intro t'z4 h'z4 tk'z4 kp'z4; have F'z4 := fr_kept0 kFz4 kp'z4; have N'z4 := news_kept0 kNz4 kp'z4; clear kp'z4 kFz4 kNz4; (try dsimp only); (try k_sweep)) | ((with_reducible show wpAny _ _ (call (Value.builtin "list.append") _ _) _ _ _); (k_here; (with_reducible show wpAny _ _ (call (Value.builtin _) [Value.ref _, _]) _ _ _); k_dflt (refine' append_K (by k_asm) (by k_asm) (by k_upd) ?_ (by (refine size_small ?_; (try simp only [List.size_toArray]); omega)); k_whole); intro h'z3 F'z3 N'z3; (try k_sweep))) | ((with_reducible show wpAny _ _ (pyIter (Value.ref _)) _ _ _); (k_here; (with_reducible show wpAny _ _ (pyIter _) (fun _ _ => ForAt _ _ _ _ _ _ _ _ _ _ _) _ _); refine halt ?_)) | ((with_reducible show wpAny _ _ (exec (Stmt.For _ _ _ _ _) _) _ _ _); k_here; refine halt ?_) | ((with_reducible show wpAny _ _ (exec (Stmt.For _ _ _ _ _) _) _ _ _); k_here; refine halt ?_) | walk1 | row_room_at HE)) | (leave1; walk_say "STEP leave1"; try dsimp only)))
      refine go ?_
      refine For_start ?_
      (repeat' (first | (k_unfold; (try dsimp only)) | row_room_at HE | (k_end; wrow_close) | ((with_reducible show wpAny _ _ (call (Value.ref 56) _) _ _ _); k_here; (with_reducible rename Fr _ _ _ _ => kFz4); (with_reducible rename News _ _ _ _ => kNz4); refine' bisect_left_call (by (first | exact lim2 hdp rfl | exact lim1 hdp rfl | exact lim2 hun rfl | exact lim1 hun rfl | exact lim0 hdp | exact lim0 hun | exact lim3 hdp rfl | exact lim3 hun rfl | ((try dsimp only [arA, Around.deeper]); omega))) (by (first | exact lim2 hdp rfl | exact lim1 hdp rfl | exact lim2 hun rfl | exact lim1 hun rfl | exact lim0 hdp | exact lim0 hun | exact lim3 hdp rfl | exact lim3 hun rfl | ((try dsimp only [arA, Around.deeper]); omega))) (by assumption) (by assumption) (Fr.keep kFz4) (by first | exact Or.inl rfl | exact Or.inr ⟨_, rfl⟩) (hn_of kNz4 (by (intro qz4 hqz4; rw [List.mem_singleton.mp hqz4]; k_mem))) (by assumption) (by assumption) (by assumption) ?_; intro t'z4 h'z4 tk'z4 kp'z4; have F'z4 := fr_kept0 kFz4 kp'z4; have N'z4 := news_kept0 kNz4 kp'z4; clear kp'z4 kFz4 kNz4; (try dsimp only); (try k_sweep)) | ((with_reducible show wpAny _ _ (call (Value.builtin "list.append") _ _) _ _ _); (k_here; (with_reducible show wpAny _ _ (call (Value.builtin _) [Value.ref _, _]) _ _ _); k_dflt (refine' append_K (by k_asm) (by k_asm) (by k_upd) ?_ (by (refine size_small ?_; (try simp only [List.size_toArray]); omega)); k_whole); intro h'z3 F'z3 N'z3; (try k_sweep))) | ((with_reducible show wpAny _ _ (pyIter (Value.ref _)) _ _ _); (k_here; (with_reducible show wpAny _ _ (pyIter _) (fun _ _ => ForAt _ _ _ _ _ _ _ _ _ _ _) _ _); refine halt ?_)) | ((with_reducible show wpAny _ _ (exec (Stmt.For _ _ _ _ _) _) _ _ _); k_here; refine halt ?_) | ((with_reducible show wpAny _ _ (exec (Stmt.For _ _ _ _ _) _) _ _ _); k_here; refine halt ?_) | row_room_at HB | (dsimp only; (first | ((with_reducible show wpAny _ _ (call (Value.ref 56) _) _ _ _); k_here; (with_reducible rename Fr _ _ _ _ => kFz4); (with_reducible rename News _ _ _ _ => kNz4); refine' bisect_left_call (by (first | exact lim2 hdp rfl | exact lim1 hdp rfl | exact lim2 hun rfl | exact lim1 hun rfl | exact lim0 hdp | exact lim0 hun | exact lim3 hdp rfl | exact lim3 hun rfl | ((try dsimp only [arA, Around.deeper]); omega))) (by (first | exact lim2 hdp rfl | exact lim1 hdp rfl | exact lim2 hun rfl | exact lim1 hun rfl | exact lim0 hdp | exact lim0 hun | exact lim3 hdp rfl | exact lim3 hun rfl | ((try dsimp only [arA, Around.deeper]); omega))) (by assumption) (by assumption) (Fr.keep kFz4) (by first | exact Or.inl rfl | exact Or.inr ⟨_, rfl⟩) (hn_of kNz4 (by (intro qz4 hqz4; rw [List.mem_singleton.mp hqz4]; k_mem))) (by assumption) (by assumption) (by assumption) ?_; intro t'z4 h'z4 tk'z4 kp'z4; have F'z4 := fr_kept0 kFz4 kp'z4; have N'z4 := news_kept0 kNz4 kp'z4; clear kp'z4 kFz4 kNz4; (try dsimp only); (try k_sweep)) | ((with_reducible show wpAny _ _ (call (Value.builtin "list.append") _ _) _ _ _); (k_here; (with_reducible show wpAny _ _ (call (Value.builtin _) [Value.ref _, _]) _ _ _); k_dflt (refine' append_K (by k_asm) (by k_asm) (by k_upd) ?_ (by (refine size_small ?_; (try simp only [List.size_toArray]); omega)); k_whole); intro h'z3 F'z3 N'z3; (try k_sweep))) | ((with_reducible show wpAny _ _ (pyIter (Value.ref _)) _ _ _); (k_here; (with_reducible show wpAny _ _ (pyIter _) (fun _ _ => ForAt _ _ _ _ _ _ _ _ _ _ _) _ _); refine halt ?_)) | ((with_reducible show wpAny _ _ (exec (Stmt.For _ _ _ _ _) _) _ _ _); k_here; refine halt ?_) | ((with_reducible show wpAny _ _ (exec (Stmt.For _ _ _ _ _) _) _ _ _); k_here; refine halt ?_) | walk1 | row_room_at HE)) | (leave1; walk_say "STEP leave1"; try dsimp only)))
      refine go ?_
      (with_reducible rename Fr _ _ _ _ => F2)
      (with_reducible rename News _ _ _ _ => N2)
      clear F N
      rename_i T1 _ _
      refine for_tuple rfl (fun j m news => ∃ vs' nn', Knows m [("places", .ref D), ("level", .ref A1), ("family", .ref A2), ("mask", .int (mask : Int) tv)] ∧ IntsAre vs' (placesM lev mask j (placesF lev (fam.take i))) ∧
        news = [(T1, _), (I, oI), (D, listOf vs'.toArray nn'), (A1, listOf v1.toArray n1), (A2, listOf v2.toArray n2)]) F2 N2 (.head _) ⟨vs, nn, ⟨rfl, rfl, rfl, rfl, trivial⟩, hvs, rfl⟩ ?_ ?_ ?_ PassesOwn.never
      · intro j m news jz3
        (refine hideP ?_; intro PP hPP); (obtain ⟨vs', nn', _, _, rfl⟩ := jz3) <;> (refine hPP ?_; clear hPP; clear PP)
        exact .head _
      · clear F2 N2
        intro I2 j v m news oI2 h tk hI2 hv jz10
        (refine hideP ?_; intro PP hPP); (obtain ⟨vs', nn', e1, hvs', rfl⟩ := jz10) <;> (refine hPP ?_; clear hPP; clear PP)
        intro off2 F N
        replace F := fr_knows e1 F
        clear e1
        have q1 : @Ne Nat T1 I2 := off2 _ (.head _)
        have q2 : @Ne Nat I I2 := off2 (I, oI) (.tail _ (.head _))
        have q3 : @Ne Nat D I2 := off2 (D, listOf vs'.toArray nn') (.tail _ (.tail _ (.head _)))
        have q4 : @Ne Nat A1 I2 := off2 (A1, listOf v1.toArray n1) (.tail _ (.tail _ (.tail _ (.head _))))
        have q5 : @Ne Nat A2 I2 := off2 (A2, listOf v2.toArray n2) (.tail _ (.tail _ (.tail _ (.tail _ (.head _)))))
        (refine hideP ?_; intro PP hPP); (obtain ⟨hj, tj, rfl⟩ := flags_at hv) <;> (refine hPP ?_; clear hPP; clear PP)
        clear hv
        have hvl : vs'.length ≤ 160 := by rw [hvs'.length]; exact Nat.le_trans (placesM_len _ _ _ j) (by omega)
        rcases pl_bits j hj mask hm32 with ⟨b1, b2, b3⟩ | ⟨b1, b2⟩
        · have sn := placesM_yes (lev := lev) (ps := placesF lev (fam.take i)) b1
          rw [← b3] at sn
          (repeat' (first | (k_unfold; (try dsimp only)) | row_room_at HE | (k_end; wrow_close) | ((with_reducible show wpAny _ _ (call (Value.ref 56) _) _ _ _); k_here; (with_reducible rename Fr _ _ _ _ => kFz4); (with_reducible rename News _ _ _ _ => kNz4); refine' bisect_left_call (by (first | exact lim2 hdp rfl | exact lim1 hdp rfl | exact lim2 hun rfl | exact lim1 hun rfl | exact lim0 hdp | exact lim0 hun | exact lim3 hdp rfl | exact lim3 hun rfl | ((try dsimp only [arA, Around.deeper]); omega))) (by (first | exact lim2 hdp rfl | exact lim1 hdp rfl | exact lim2 hun rfl | exact lim1 hun rfl | exact lim0 hdp | exact lim0 hun | exact lim3 hdp rfl | exact lim3 hun rfl | ((try dsimp only [arA, Around.deeper]); omega))) (by assumption) (by assumption) (Fr.keep kFz4) (by first | exact Or.inl rfl | exact Or.inr ⟨_, rfl⟩) (hn_of kNz4 (by (intro qz4 hqz4; rw [List.mem_singleton.mp hqz4]; k_mem))) (by assumption) (by assumption) (by assumption) ?_; intro t'z4 h'z4 tk'z4 kp'z4; have F'z4 := fr_kept0 kFz4 kp'z4; have N'z4 := news_kept0 kNz4 kp'z4; clear kp'z4 kFz4 kNz4; (try dsimp only); (try k_sweep)) | ((with_reducible show wpAny _ _ (call (Value.builtin "list.append") _ _) _ _ _); (k_here; (with_reducible show wpAny _ _ (call (Value.builtin _) [Value.ref _, _]) _ _ _); k_dflt (refine' append_K (by k_asm) (by k_asm) (by k_upd) ?_ (by (refine size_small ?_; (try simp only [List.size_toArray]); omega)); k_whole); intro h'z3 F'z3 N'z3; (try k_sweep))) | ((with_reducible show wpAny _ _ (pyIter (Value.ref _)) _ _ _); (k_here; (with_reducible show wpAny _ _ (pyIter _) (fun _ _ => ForAt _ _ _ _ _ _ _ _ _ _ _) _ _); refine halt ?_)) | ((with_reducible show wpAny _ _ (exec (Stmt.For _ _ _ _ _) _) _ _ _); k_here; refine halt ?_) | ((with_reducible show wpAny _ _ (exec (Stmt.For _ _ _ _ _) _) _ _ _); k_here; refine halt ?_) | row_room_at HB | (dsimp only; (first | ((with_reducible show wpAny _ _ (call (Value.ref 56) _) _ _ _); k_here; (with_reducible rename Fr _ _ _ _ => kFz4); (with_reducible rename News _ _ _ _ => kNz4); refine' bisect_left_call (by (first | exact lim2 hdp rfl | exact lim1 hdp rfl | exact lim2 hun rfl | exact lim1 hun rfl | exact lim0 hdp | exact lim0 hun | exact lim3 hdp rfl | exact lim3 hun rfl | ((try dsimp only [arA, Around.deeper]); omega))) (by (first | exact lim2 hdp rfl | exact lim1 hdp rfl | exact lim2 hun rfl | exact lim1 hun rfl | exact lim0 hdp | exact lim0 hun | exact lim3 hdp rfl | exact lim3 hun rfl | ((try dsimp only [arA, Around.deeper]); omega))) (by assumption) (by assumption) (Fr.keep kFz4) (by first | exact Or.inl rfl | exact Or.inr ⟨_, rfl⟩) (hn_of kNz4 (by (intro qz4 hqz4; rw [List.mem_singleton.mp hqz4]; k_mem))) (by assumption) (by assumption) (by assumption) ?_; intro t'z4 h'z4 tk'z4 kp'z4; have F'z4 := fr_kept0 kFz4 kp'z4; have N'z4 := news_kept0 kNz4 kp'z4; clear kp'z4 kFz4 kNz4; (try dsimp only); (try k_sweep)) | ((with_reducible show wpAny _ _ (call (Value.builtin "list.append") _ _) _ _ _); (k_here; (with_reducible show wpAny _ _ (call (Value.builtin _) [Value.ref _, _]) _ _ _); k_dflt (refine' append_K (by k_asm) (by k_asm) (by k_upd) ?_ (by (refine size_small ?_; (try simp only [List.size_toArray]); omega)); k_whole); intro h'z3 F'z3 N'z3; (try k_sweep))) | ((with_reducible show wpAny _ _ (pyIter (Value.ref _)) _ _ _); (k_here; (with_reducible show wpAny _ _ (pyIter _) (fun _ _ => ForAt _ _ _ _ _ _ _ _ _ _ _) _ _); refine halt ?_)) | ((with_reducible show wpAny _ _ (exec (Stmt.For _ _ _ _ _) _) _ _ _); k_here; refine halt ?_) | ((with_reducible show wpAny _ _ (exec (Stmt.For _ _ _ _ _) _) _ _ _); k_here; refine halt ?_) | walk1 | row_room_at HE)) | (leave1; walk_say "STEP leave1"; try dsimp only)))
          · rename_i ha
            (with_reducible rename Fr _ _ _ _ => F3)
            (with_reducible rename News _ _ _ _ => N3)
            refine fEnd F3 N3 (fun _ hp => hp) off2 ⟨_, _, ⟨rfl, rfl, rfl, rfl, trivial⟩, ?_, rfl⟩
            rw [sn, placeStep, if_pos ha]
            exact hvs'
          · have ha : ((placesM lev mask j (placesF lev (fam.take i))).any fun x => x == ((ltCount lev ((mask : Int) - ((2 ^ j : Nat) : Int)) : Nat) : Int)) = false := by assumption
            (with_reducible rename Fr _ _ _ _ => F3)
            (with_reducible rename News _ _ _ _ => N3)
            rw [List.push_toArray] at N3
            refine fEnd F3 N3 (fun _ hp => hp) (fun q hq => ?_) ⟨_, _, ⟨rfl, rfl, rfl, rfl, trivial⟩, ?_, rfl⟩
            · revert hq
              revert q
              refine' all_cons ?_ (all_cons ?_ (all_cons ?_ (all_cons ?_ (all_cons ?_ (all_nil)))))
              · exact q1
              · exact q2
              · exact q3
              · exact q4
              · exact q5
            · rw [sn, placeStep, if_neg (by rw [ha]; exact Bool.false_ne_true)]
              exact IntsAre.append hvs' (.cons _ _ .nil)
          · exact absurd (by assumption) b2
        · have sn := placesM_no (lev := lev) (ps := placesF lev (fam.take i)) b1
          (repeat' (first | (k_unfold; (try dsimp only)) | row_room_at HE | (k_end; wrow_close) | ((with_reducible show wpAny _ _ (call (Value.ref 56) _) _ _ _); k_here; (with_reducible rename Fr _ _ _ _ => kFz4); (with_reducible rename News _ _ _ _ => kNz4); refine' bisect_left_call (by (first | exact lim2 hdp rfl | exact lim1 hdp rfl | exact lim2 hun rfl | exact lim1 hun rfl | exact lim0 hdp | exact lim0 hun | exact lim3 hdp rfl | exact lim3 hun rfl | ((try dsimp only [arA, Around.deeper]); omega))) (by (first | exact lim2 hdp rfl | exact lim1 hdp rfl | exact lim2 hun rfl | exact lim1 hun rfl | exact lim0 hdp | exact lim0 hun | exact lim3 hdp rfl | exact lim3 hun rfl | ((try dsimp only [arA, Around.deeper]); omega))) (by assumption) (by assumption) (Fr.keep kFz4) (by first | exact Or.inl rfl | exact Or.inr ⟨_, rfl⟩) (hn_of kNz4 (by (intro qz4 hqz4; rw [List.mem_singleton.mp hqz4]; k_mem))) (by assumption) (by assumption) (by assumption) ?_; intro t'z4 h'z4 tk'z4 kp'z4; have F'z4 := fr_kept0 kFz4 kp'z4; have N'z4 := news_kept0 kNz4 kp'z4; clear kp'z4 kFz4 kNz4; (try dsimp only); (try k_sweep)) | ((with_reducible show wpAny _ _ (call (Value.builtin "list.append") _ _) _ _ _); (k_here; (with_reducible show wpAny _ _ (call (Value.builtin _) [Value.ref _, _]) _ _ _); k_dflt (refine' append_K (by k_asm) (by k_asm) (by k_upd) ?_ (by (refine size_small ?_; (try simp only [List.size_toArray]); omega)); k_whole); intro h'z3 F'z3 N'z3; (try k_sweep))) | ((with_reducible show wpAny _ _ (pyIter (Value.ref _)) _ _ _); (k_here; (with_reducible show wpAny _ _ (pyIter _) (fun _ _ => ForAt _ _ _ _ _ _ _ _ _ _ _) _ _); refine halt ?_)) | ((with_reducible show wpAny _ _ (exec (Stmt.For _ _ _ _ _) _) _ _ _); k_here; refine halt ?_) | ((with_reducible show wpAny _ _ (exec (Stmt.For _ _ _ _ _) _) _ _ _); k_here; refine halt ?_) | row_room_at HB | (dsimp only; (first | ((with_reducible show wpAny _ _ (call (Value.ref 56) _) _ _ _); k_here; (with_reducible rename Fr _ _ _ _ => kFz4); (with_reducible rename News _ _ _ _ => kNz4); refine' bisect_left_call (by (first | exact lim2 hdp rfl | exact lim1 hdp rfl | exact lim2 hun rfl | exact lim1 hun rfl | exact lim0 hdp | exact lim0 hun | exact lim3 hdp rfl | exact lim3 hun rfl | ((try dsimp only [arA, Around.deeper]); omega))) (by (first | exact lim2 hdp rfl | exact lim1 hdp rfl | exact lim2 hun rfl | exact lim1 hun rfl | exact lim0 hdp | exact lim0 hun | exact lim3 hdp rfl | exact lim3 hun rfl | ((try dsimp only [arA, Around.deeper]); omega))) (by assumption) (by assumption) (Fr.keep kFz4) (by first | exact Or.inl rfl | exact Or.inr ⟨_, rfl⟩) (hn_of kNz4 (by (intro qz4 hqz4; rw [List.mem_singleton.mp hqz4]; k_mem))) (by assumption) (by assumption) (by assumption) ?_; intro t'z4 h'z4 tk'z4 kp'z4; have F'z4 := fr_kept0 kFz4 kp'z4; have N'z4 := news_kept0 kNz4 kp'z4; clear kp'z4 kFz4 kNz4; (try dsimp only); (try k_sweep)) | ((with_reducible show wpAny _ _ (call (Value.builtin "list.append") _ _) _ _ _); (k_here; (with_reducible show wpAny _ _ (call (Value.builtin _) [Value.ref _, _]) _ _ _); k_dflt (refine' append_K (by k_asm) (by k_asm) (by k_upd) ?_ (by (refine size_small ?_; (try simp only [List.size_toArray]); omega)); k_whole); intro h'z3 F'z3 N'z3; (try k_sweep))) | ((with_reducible show wpAny _ _ (pyIter (Value.ref _)) _ _ _); (k_here; (with_reducible show wpAny _ _ (pyIter _) (fun _ _ => ForAt _ _ _ _ _ _ _ _ _ _ _) _ _); refine halt ?_)) | ((with_reducible show wpAny _ _ (exec (Stmt.For _ _ _ _ _) _) _ _ _); k_here; refine halt ?_) | ((with_reducible show wpAny _ _ (exec (Stmt.For _ _ _ _ _) _) _ _ _); k_here; refine halt ?_) | walk1 | row_room_at HE)) | (leave1; walk_say "STEP leave1"; try dsimp only)))
          · exact absurd b2 (by assumption)
          · (with_reducible rename Fr _ _ _ _ => F3)
            (with_reducible rename News _ _ _ _ => N3)
            refine fEnd F3 N3 (fun _ hp => hp) off2 ⟨_, _, ⟨rfl, rfl, rfl, rfl, trivial⟩, ?_, rfl⟩
            rw [sn]
            exact hvs'
      · intro m news h tk jz4
        (refine hideP ?_; intro PP hPP); (obtain ⟨vs', nn', e1, hvs', rfl⟩ := jz4) <;> (refine hPP ?_; clear hPP; clear PP)
        intro F N
        replace F := fr_knows e1 F
        clear e1
        (try dsimp only)
        (repeat' (first | (k_unfold; (try dsimp only)) | row_room_at HE | (k_end; wrow_close) | ((with_reducible show wpAny _ _ (call (Value.ref 56) _) _ _ _); k_here; (with_reducible rename Fr _ _ _ _ => kFz4); (with_reducible rename News _ _ _ _ => kNz4); refine' bisect_left_call (by (first | exact lim2 hdp rfl | exact lim1 hdp rfl | exact lim2 hun rfl | exact lim1 hun rfl | exact lim0 hdp | exact lim0 hun | exact lim3 hdp rfl | exact lim3 hun rfl | ((try dsimp only [arA, Around.deeper]); omega))) (by (first | exact lim2 hdp rfl | exact lim1 hdp rfl | exact lim2 hun rfl | exact lim1 hun rfl | exact lim0 hdp | exact lim0 hun | exact lim3 hdp rfl | exact lim3 hun rfl | ((try dsimp only [arA, Around.deeper]); omega))) (by assumption) (by assumption) (Fr.keep kFz4) (by first | exact Or.inl rfl | exact Or.inr ⟨_, rfl⟩) (hn_of kNz4 (by (intro qz4 hqz4; rw [List.mem_singleton.mp hqz4]; k_mem))) (by assumption) (by assumption) (by assumption) ?_; intro t'z4 h'z4 tk'z4 kp'z4; have F'z4 := fr_kept0 kFz4 kp'z4; have N'z4 := news_kept0 kNz4 kp'z4; clear kp'z4 kFz4 kNz4; (try dsimp only); (try k_sweep)) | ((with_reducible show wpAny _ _ (call (Value.builtin "list.append") _ _) _ _ _); (k_here; (with_reducible show wpAny _ _ (call (Value.builtin _) [Value.ref _, _]) _ _ _); k_dflt (refine' append_K (by k_asm) (by k_asm) (by k_upd) ?_ (by (refine size_small ?_; (try simp only [List.size_toArray]); omega)); k_whole); intro h'z3 F'z3 N'z3; (try k_sweep))) | ((with_reducible show wpAny _ _ (pyIter (Value.ref _)) _ _ _); (k_here; (with_reducible show wpAny _ _ (pyIter _) (fun _ _ => ForAt _ _ _ _ _ _ _ _ _ _ _) _ _); refine halt ?_)) | ((with_reducible show wpAny _ _ (exec (Stmt.For _ _ _ _ _) _) _ _ _); k_here; refine halt ?_) | ((with_reducible show wpAny _ _ (exec (Stmt.For _ _ _ _ _) _) _ _ _); k_here; refine halt ?_) | row_room_at HB | (dsimp only; (first | ((with_reducible show wpAny _ _ (call (Value.ref 56) _) _ _ _); k_here; (with_reducible rename Fr _ _ _ _ => kFz4); (with_reducible rename News _ _ _ _ => kNz4); refine' bisect_left_call (by (first | exact lim2 hdp rfl | exact lim1 hdp rfl | exact lim2 hun rfl | exact lim1 hun rfl | exact lim0 hdp | exact lim0 hun | exact lim3 hdp rfl | exact lim3 hun rfl | ((try dsimp only [arA, Around.deeper]); omega))) (by (first | exact lim2 hdp rfl | exact lim1 hdp rfl | exact lim2 hun rfl | exact lim1 hun rfl | exact lim0 hdp | exact lim0 hun | exact lim3 hdp rfl | exact lim3 hun rfl | ((try dsimp only [arA, Around.deeper]); omega))) (by assumption) (by assumption) (Fr.keep kFz4) (by first | exact Or.inl rfl | exact Or.inr ⟨_, rfl⟩) (hn_of kNz4 (by (intro qz4 hqz4; rw [List.mem_singleton.mp hqz4]; k_mem))) (by assumption) (by assumption) (by assumption) ?_; intro t'z4 h'z4 tk'z4 kp'z4; have F'z4 := fr_kept0 kFz4 kp'z4; have N'z4 := news_kept0 kNz4 kp'z4; clear kp'z4 kFz4 kNz4; (try dsimp only); (try k_sweep)) | ((with_reducible show wpAny _ _ (call (Value.builtin "list.append") _ _) _ _ _); (k_here; (with_reducible show wpAny _ _ (call (Value.builtin _) [Value.ref _, _]) _ _ _); k_dflt (refine' append_K (by k_asm) (by k_asm) (by k_upd) ?_ (by (refine size_small ?_; (try simp only [List.size_toArray]); omega)); k_whole); intro h'z3 F'z3 N'z3; (try k_sweep))) | ((with_reducible show wpAny _ _ (pyIter (Value.ref _)) _ _ _); (k_here; (with_reducible show wpAny _ _ (pyIter _) (fun _ _ => ForAt _ _ _ _ _ _ _ _ _ _ _) _ _); refine halt ?_)) | ((with_reducible show wpAny _ _ (exec (Stmt.For _ _ _ _ _) _) _ _ _); k_here; refine halt ?_) | ((with_reducible show wpAny _ _ (exec (Stmt.For _ _ _ _ _) _) _ _ _); k_here; refine halt ?_) | walk1 | row_room_at HE)) | (leave1; walk_say "STEP leave1"; try dsimp only)))
        (with_reducible rename Fr _ _ _ _ => F3)
        (with_reducible rename News _ _ _ _ => N3)
        refine fEnd F3 N3 (fun q hq => .tail _ hq) (fun q hq => ?_) ⟨_, _, ⟨rfl, rfl, rfl, trivial⟩, ?_, rfl⟩
        · revert hq
          revert q
          refine' all_cons ?_ (all_cons ?_ (all_cons ?_ (all_nil)))
          · exact o1
          · exact o2
          · exact o3
        · rw [snoc]
          exact hvs'
    · intro m news h tk jz4
      (refine hideP ?_; intro PP hPP); (obtain ⟨vs, nn, e1, hvs, rfl⟩ := jz4) <;> (refine hPP ?_; clear hPP; clear PP)
      intro F N
      replace F := fr_knows e1 F
      clear e1
      (try dsimp only)
      have hl2 : v2.length = fam.length := by rw [i2.length, List.length_map]
      rw [hl2, List.take_length] at hvs
      (repeat' (first | (k_unfold; (try dsimp only)) | row_room_at HE | (k_end; wrow_close) | ((with_reducible show wpAny _ _ (call (Value.ref 56) _) _ _ _); k_here; (with_reducible rename Fr _ _ _ _ => kFz4); (with_reducible rename News _ _ _ _ => kNz4); refine' bisect_left_call (by (first | exact lim2 hdp rfl | exact lim1 hdp rfl | exact lim2 hun rfl | exact lim1 hun rfl | exact lim0 hdp | exact lim0 hun | exact lim3 hdp rfl | exact lim3 hun rfl | ((try dsimp only [arA, Around.deeper]); omega))) (by (first | exact lim2 hdp rfl | exact lim1 hdp rfl | exact lim2 hun rfl | exact lim1 hun rfl | exact lim0 hdp | exact lim0 hun | exact lim3 hdp rfl | exact lim3 hun rfl | ((try dsimp only [arA, Around.deeper]); omega))) (by assumption) (by assumption) (Fr.keep kFz4) (by first | exact Or.inl rfl | exact Or.inr ⟨_, rfl⟩) (hn_of kNz4 (by (intro qz4 hqz4; rw [List.mem_singleton.mp hqz4]; k_mem))) (by assumption) (by assumption) (by assumption) ?_; intro t'z4 h'z4 tk'z4 kp'z4; have F'z4 := fr_kept0 kFz4 kp'z4; have N'z4 := news_kept0 kNz4 kp'z4; clear kp'z4 kFz4 kNz4; (try dsimp only); (try k_sweep)) | ((with_reducible show wpAny _ _ (call (Value.builtin "list.append") _ _) _ _ _); (k_here; (with_reducible show wpAny _ _ (call (Value.builtin _) [Value.ref _, _]) _ _ _); k_dflt (refine' append_K (by k_asm) (by k_asm) (by k_upd) ?_ (by (refine size_small ?_; (try simp only [List.size_toArray]); omega)); k_whole); intro h'z3 F'z3 N'z3; (try k_sweep))) | ((with_reducible show wpAny _ _ (pyIter (Value.ref _)) _ _ _); (k_here; (with_reducible show wpAny _ _ (pyIter _) (fun _ _ => ForAt _ _ _ _ _ _ _ _ _ _ _) _ _); refine halt ?_)) | ((with_reducible show wpAny _ _ (exec (Stmt.For _ _ _ _ _) _) _ _ _); k_here; refine halt ?_) | ((with_reducible show wpAny _ _ (exec (Stmt.For _ _ _ _ _) _) _ _ _); k_here; refine halt ?_) | row_room_at HB | (dsimp only; (first | ((with_reducible show wpAny _ _ (call (Value.ref 56) _) _ _ _); k_here; (with_reducible rename Fr _ _ _ _ => kFz4); (with_reducible rename News _ _ _ _ => kNz4); refine' bisect_left_call (by (first | exact lim2 hdp rfl | exact lim1 hdp rfl | exact lim2 hun rfl | exact lim1 hun rfl | exact lim0 hdp | exact lim0 hun | exact lim3 hdp rfl | exact lim3 hun rfl | ((try dsimp only [arA, Around.deeper]); omega))) (by (first | exact lim2 hdp rfl | exact lim1 hdp rfl | exact lim2 hun rfl | exact lim1 hun rfl | exact lim0 hdp | exact lim0 hun | exact lim3 hdp rfl | exact lim3 hun rfl | ((try dsimp only [arA, Around.deeper]); omega))) (by assumption) (by assumption) (Fr.keep kFz4) (by first | exact Or.inl rfl | exact Or.inr ⟨_, rfl⟩) (hn_of kNz4 (by (intro qz4 hqz4; rw [List.mem_singleton.mp hqz4]; k_mem))) (by assumption) (by assumption) (by assumption) ?_; intro t'z4 h'z4 tk'z4 kp'z4; have F'z4 := fr_kept0 kFz4 kp'z4; have N'z4 := news_kept0 kNz4 kp'z4; clear kp'z4 kFz4 kNz4; (try dsimp only); (try k_sweep)) | ((with_reducible show wpAny _ _ (call (Value.builtin "list.append") _ _) _ _ _); (k_here; (with_reducible show wpAny _ _ (call (Value.builtin _) [Value.ref _, _]) _ _ _); k_dflt (refine' append_K (by k_asm) (by k_asm) (by k_upd) ?_ (by (refine size_small ?_; (try simp only [List.size_toArray]); omega)); k_whole); intro h'z3 F'z3 N'z3; (try k_sweep))) | ((with_reducible show wpAny _ _ (pyIter (Value.ref _)) _ _ _); (k_here; (with_reducible show wpAny _ _ (pyIter _) (fun _ _ => ForAt _ _ _ _ _ _ _ _ _ _ _) _ _); refine halt ?_)) | ((with_reducible show wpAny _ _ (exec (Stmt.For _ _ _ _ _) _) _ _ _); k_here; refine halt ?_) | ((with_reducible show wpAny _ _ (exec (Stmt.For _ _ _ _ _) _) _ _ _); k_here; refine halt ?_) | walk1 | row_room_at HE)) | (leave1; walk_say "STEP leave1"; try dsimp only)))
      (try dsimp only)
      (repeat (first | (k_unfold; (try dsimp only)) | row_room_at HE | dsimp only))
      (try dsimp only)
      (with_reducible rename Fr _ _ _ _ => F3)
      (with_reducible rename News _ _ _ _ => N3)
      refine ret _ _ D vs nn hvs (kept_ro kp' F3 (news_tail N3) hn) (N3 _ (.head _)).1 ?_
      exact fr' D (fun q hq => by
        revert hq
        revert q
        refine' all_cons ?_ (all_cons ?_ (all_nil))
        · exact hAD.1
        · exact hAD.2) (N3 _ (.head _)).2.2
end

/-! T_downp -/
theorem flushT_downp : True ∧ True := by first | (row_walk; done) | (walk1; done) | exact ⟨trivial, trivial⟩
noncomputable def InFam (ms : List Nat) (m : Nat) : Bool := ms.any fun one => one &&& m == m
noncomputable def downRow (ms : List Nat) : List Nat := (List.range 32).filter (InFam ms)
noncomputable def subsTo (m : Nat) : Nat → List Nat
  | 0 => []
  | j + 1 => if m / 2 ^ j % 2 = 1 then subsTo m j ++ [m - 2 ^ j] else subsTo m j
structure DownInv (ms row pend : List Nat) : Prop where
  sorted : row.Pairwise (· < ·)
  fam : ∀ m ∈ row, m < 32 ∧ InFam ms m = true
  pfam : ∀ m ∈ pend, m < 32 ∧ InFam ms m = true
  gens : ∀ m ∈ ms, m ∈ row ∨ m ∈ pend
  cl : ∀ m ∈ row, ∀ j, j < 5 → m / 2 ^ j % 2 = 1 → m - 2 ^ j ∈ row ∨ m - 2 ^ j ∈ pend
noncomputable def IsWord (v : Value) (m : Nat) : Prop := ∃ (word : Str) (t : Tok) (a c : Nat), v = .str word t ∧ word.cps.toList = List.replicate a 64 ++ [c] ∧ a ≤ 2 ∧ c < 192 ∧ c % 128 < 64 ∧ c % 64 = m
inductive Words : List Value → List Nat → Prop
  | nil : Words [] []
  | cons {v : Value} {m : Nat} {vs : List Value} {ms : List Nat} (h : IsWord v m) (r : Words vs ms) : Words (v :: vs) (m :: ms)
theorem Words.snoc {vs : List Value} {ms : List Nat} (h : Words vs ms) {v : Value} {m : Nat} (hw : IsWord v m) : Words (vs ++ [v]) (ms ++ [m]) := by
  induction h with
  | nil => exact .cons hw .nil
  | cons a _ ih => exact .cons a ih
theorem Words.len {vs : List Value} {ms : List Nat} (h : Words vs ms) : vs.length = ms.length := by
  induction h with
  | nil => rfl
  | cons _ _ ih => rw [List.length_cons, List.length_cons, ih]
theorem subsTo_len (m : Nat) : ∀ j, (subsTo m j).length ≤ j
  | 0 => Nat.le_refl _
  | j + 1 => by
    rw [subsTo]
    have := subsTo_len m j
    split
    · rw [List.length_append]; exact Nat.succ_le_succ this
    · omega
theorem subs_yes {m j : Nat} (h : m / 2 ^ j % 2 = 1) : subsTo m (j + 1) = subsTo m j ++ [m - 2 ^ j] := by rw [subsTo, if_pos h]
theorem subs_no {m j : Nat} (h : ¬ m / 2 ^ j % 2 = 1) : subsTo m (j + 1) = subsTo m j := by rw [subsTo, if_neg h]
theorem ltCount_cons (a : Int) (r : List Int) (x : Int) : ltCount (a :: r) x = if a < x then ltCount r x + 1 else ltCount r x := by
  unfold ltCount
  by_cases h : a < x <;> simp [h]
theorem ltCount_zero {r : List Int} {x : Int} (h : ∀ b ∈ r, x ≤ b) : ltCount r x = 0 := by
  unfold ltCount
  rw [List.length_eq_zero_iff, List.filter_eq_nil_iff]
  intro b hb
  have := h b hb
  simp; omega
theorem head_lt : ∀ {l : List Int} {x : Int}, l.Pairwise (· < ·) → ((l.drop (ltCount l x)).head? = some x ↔ x ∈ l)
  | [], x, _ => by simp
  | a :: r, x, h => by
    obtain ⟨h1, h2⟩ := List.pairwise_cons.mp h
    rw [ltCount_cons]
    by_cases hx : a < x
    · rw [if_pos hx, List.drop_succ_cons, head_lt h2, List.mem_cons]
      constructor
      · exact .inr
      · rintro (e | e)
        · omega
        · exact e
    · rw [if_neg hx, ltCount_zero fun b hb => by have := h1 b hb; omega]
      simp only [List.drop_zero, List.head?_cons, Option.some.injEq, List.mem_cons]
      constructor
      · exact fun e => .inl e.symm
      · rintro (e | e)
        · exact e.symm
        · have := h1 x e; omega
theorem ins_sorted : ∀ {l : List Int} {x : Int}, l.Pairwise (· < ·) → x ∉ l → (l.take (ltCount l x) ++ x :: l.drop (ltCount l x)).Pairwise (· < ·)
  | [], x, _, _ => by simp
  | a :: r, x, h, hn => by
    obtain ⟨h1, h2⟩ := List.pairwise_cons.mp h
    rw [List.mem_cons, not_or] at hn
    rw [ltCount_cons]
    by_cases hx : a < x
    · rw [if_pos hx, List.take_succ_cons, List.drop_succ_cons, List.cons_append]
      refine List.pairwise_cons.mpr ⟨fun b hb => ?_, ins_sorted h2 hn.2⟩
      rw [List.mem_append, List.mem_cons] at hb
      rcases hb with e | rfl | e
      · exact h1 b (List.mem_of_mem_take e)
      · exact hx
      · exact h1 b (List.mem_of_mem_drop e)
    · rw [if_neg hx, ltCount_zero fun b hb => by have := h1 b hb; omega]
      simp only [List.take_zero, List.drop_zero, List.nil_append]
      refine List.pairwise_cons.mpr ⟨fun b hb => ?_, h⟩
      rcases List.mem_cons.mp hb with rfl | e
      · have := hn.1; omega
      · have := h1 b e; omega
noncomputable def rowI (row : List Nat) : List Int := row.map fun n : Nat => (n : Int)
theorem mem_rowI {row : List Nat} {m : Nat} : (m : Int) ∈ rowI row ↔ m ∈ row := by
  unfold rowI
  rw [List.mem_map]
  constructor
  · intro jz0
    (refine hideP ?_; intro PP hPP); (obtain ⟨a, ha, e⟩ := jz0) <;> (refine hPP ?_; clear hPP; clear PP)
    have : a = m := by omega
    exact this ▸ ha
  · exact fun h => ⟨m, h, rfl⟩
theorem sorted_map {l : List Nat} (h : l.Pairwise (· < ·)) : (l.map fun n : Nat => (n : Int)).Pairwise (· < ·) := by
  rw [List.pairwise_map]
  exact h.imp fun h => by omega
theorem sorted_unmap {l : List Nat} (h : (l.map fun n : Nat => (n : Int)).Pairwise (· < ·)) : l.Pairwise (· < ·) := by
  rw [List.pairwise_map] at h
  exact h.imp fun h => by omega
theorem slice_is {row : List Nat} {mk : Nat} (hs : row.Pairwise (· < ·)) : List.take (min ((ltCount (row.map fun n : Nat => (n : Int)) (mk : Int) : Int) + 1).toNat (row.map fun n : Nat => (n : Int)).length - ((ltCount (row.map fun n : Nat => (n : Int)) (mk : Int) : Int)).toNat) (List.drop ((ltCount (row.map fun n : Nat => (n : Int)) (mk : Int) : Int)).toNat (row.map fun n : Nat => (n : Int))) = [(mk : Int)] ↔ mk ∈ row := by
  have hh := head_lt (x := (mk : Int)) (sorted_map hs)
  rw [show ((mk : Int) ∈ row.map fun n : Nat => (n : Int)) = ((mk : Int) ∈ rowI row) from rfl, mem_rowI] at hh
  rw [← hh]
  generalize (row.map fun n : Nat => (n : Int)) = l
  generalize ltCount l (mk : Int) = c
  have e1 : ((c : Int) + 1).toNat = c + 1 := by omega
  have e2 : ((c : Int)).toNat = c := by omega
  rw [e1, e2]
  have hl : (l.drop c).length = l.length - c := List.length_drop
  revert hl
  cases l.drop c with
  | nil => intro _; simp
  | cons y r =>
    intro hl
    rw [List.length_cons] at hl
    have e3 : min (c + 1) l.length - c = 1 := by omega
    rw [e3]
    simp
theorem ins_map {row : List Nat} {mk : Nat} (c : Nat) : (row.map fun n : Nat => (n : Int)).take c ++ (mk : Int) :: (row.map fun n : Nat => (n : Int)).drop c = (row.take c ++ mk :: row.drop c).map fun n : Nat => (n : Int) := by
  simp [List.map_append, List.map_take, List.map_drop]
theorem ins_mem {row : List Nat} {mk c m : Nat} : m ∈ row.take c ++ mk :: row.drop c ↔ m = mk ∨ m ∈ row := by
  conv => rhs; rw [← List.take_append_drop c row]
  simp only [List.mem_append, List.mem_cons]
  constructor
  · rintro (h | h | h)
    · exact .inr (.inl h)
    · exact .inl h
    · exact .inr (.inr h)
  · rintro (h | h | h)
    · exact .inr (.inl h)
    · exact .inl h
    · exact .inr (.inr h)
theorem mem_subs {m x : Nat} : ∀ {j : Nat}, x ∈ subsTo m j ↔ ∃ i, i < j ∧ m / 2 ^ i % 2 = 1 ∧ x = m - 2 ^ i
  | 0 => by simp [subsTo]
  | j + 1 => by
    rw [subsTo]
    split
    · rename_i h
      rw [List.mem_append, mem_subs, List.mem_singleton]
      constructor
      · rintro (⟨i, h1, h2, h3⟩ | h1)
        · exact ⟨i, by omega, h2, h3⟩
        · exact ⟨j, by omega, h, h1⟩
      · intro jz0
        (refine hideP ?_; intro PP hPP); (obtain ⟨i, h1, h2, h3⟩ := jz0) <;> (refine hPP ?_; clear hPP; clear PP)
        rcases Nat.lt_or_ge i j with hij | hij
        · exact .inl ⟨i, hij, h2, h3⟩
        · have : i = j := by omega
          subst this; exact .inr h3
    · rename_i h
      rw [mem_subs]
      constructor
      · intro jz0
        (refine hideP ?_; intro PP hPP); (obtain ⟨i, h1, h2, h3⟩ := jz0) <;> (refine hPP ?_; clear hPP; clear PP)
        exact ⟨i, by omega, h2, h3⟩
      · intro jz0
        (refine hideP ?_; intro PP hPP); (obtain ⟨i, h1, h2, h3⟩ := jz0) <;> (refine hPP ?_; clear hPP; clear PP)
        rcases Nat.lt_or_ge i j with hij | hij
        · exact ⟨i, hij, h2, h3⟩
        · have : i = j := by omega
          subst this; exact absurd h2 h
theorem sub_fam0 : ∀ one : Nat, one < 32 → ∀ m : Nat, m < 32 → one &&& m = m → ∀ j : Nat, j < 5 → m / 2 ^ j % 2 = 1 → one &&& (m - 2 ^ j) = m - 2 ^ j := by decide +kernel
theorem up_fam0 : ∀ one : Nat, one < 32 → ∀ m : Nat, m < 32 → one &&& m = m → m = one ∨ ∃ j : Nat, j < 5 ∧ m + 2 ^ j < 32 ∧ one &&& (m + 2 ^ j) = m + 2 ^ j ∧ (m + 2 ^ j) / 2 ^ j % 2 = 1 := by decide +kernel
theorem inFam_sub {ms : List Nat} (hms : ∀ m ∈ ms, m < 32) {m j : Nat} (hm : m < 32) (h : InFam ms m = true) (hj : j < 5) (hb : m / 2 ^ j % 2 = 1) : InFam ms (m - 2 ^ j) = true := by
  (refine hideP ?_; intro PP hPP); (obtain ⟨one, h1, h2⟩ := List.any_eq_true.mp h) <;> (refine hPP ?_; clear hPP; clear PP)
  refine List.any_eq_true.mpr ⟨one, h1, ?_⟩
  rw [beq_iff_eq] at h2 ⊢
  exact sub_fam0 one (hms one h1) m hm h2 j hj hb
theorem row_len {l : List Nat} : l.Pairwise (· < ·) → (∀ m ∈ l, m < 32) → l.length ≤ 32 := by
  suffices ∀ (l : List Nat) (a : Nat), l.Pairwise (· < ·) → (∀ m ∈ l, a ≤ m ∧ m < 32) → l.length ≤ 32 - a by
    intro h1 h2
    exact this l 0 h1 fun m hm => ⟨Nat.zero_le _, h2 m hm⟩
  intro l
  induction l with
  | nil => intro a _ _; exact Nat.zero_le _
  | cons x r ih =>
    intro a h1 h2
    obtain ⟨g1, g2⟩ := List.pairwise_cons.mp h1
    have := ih (x + 1) g2 fun m hm => ⟨g1 m hm, (h2 m (.tail _ hm)).2⟩
    have hx := h2 x (.head _)
    rw [List.length_cons]
    omega
theorem sorted_ext : ∀ {l l' : List Nat}, l.Pairwise (· < ·) → l'.Pairwise (· < ·) → (∀ m, m ∈ l ↔ m ∈ l') → l = l'
  | [], [], _, _, _ => rfl
  | [], b :: r, _, _, h => absurd ((h b).mpr (.head _)) (by simp)
  | a :: r, [], _, _, h => absurd ((h a).mp (.head _)) (by simp)
  | a :: r, b :: r', h1, h2, h => by
    obtain ⟨g1, g2⟩ := List.pairwise_cons.mp h1
    obtain ⟨k1, k2⟩ := List.pairwise_cons.mp h2
    have hab : a = b := by
      rcases List.mem_cons.mp ((h a).mp (.head _)) with e | e
      · exact e
      · rcases List.mem_cons.mp ((h b).mpr (.head _)) with e' | e'
        · exact e'.symm
        · have := k1 a e; have := g1 b e'; omega
    subst hab
    rw [sorted_ext g2 k2 fun m => ?_]
    constructor
    · intro hm
      rcases List.mem_cons.mp ((h m).mp (.tail _ hm)) with rfl | e
      · have := g1 m hm; omega
      · exact e
    · intro hm
      rcases List.mem_cons.mp ((h m).mpr (.tail _ hm)) with rfl | e
      · have := k1 m hm; omega
      · exact e
theorem inv_end {ms row : List Nat} (h : DownInv ms row []) (hms : ∀ m ∈ ms, m < 32) : row = downRow ms := by
  refine sorted_ext h.sorted (List.pairwise_lt_range.filter _) fun m => ?_
  unfold downRow
  rw [List.mem_filter, List.mem_range]
  constructor
  · exact h.fam m
  · rintro ⟨h1, h2⟩
    (refine hideP ?_; intro PP hPP); (obtain ⟨one, g1, g2⟩ := List.any_eq_true.mp h2) <;> (refine hPP ?_; clear hPP; clear PP)
    rw [beq_iff_eq] at g2
    have key : ∀ n m : Nat, m < 32 → 32 - m ≤ n → one &&& m = m → m ∈ row := by
      intro n
      induction n with
      | zero => intro m hm hn _; omega
      | succ n ih =>
        intro m hm hn hs
        rcases up_fam0 one (hms one g1) m hm hs with rfl | ⟨j, hj, k1, k2, k3⟩
        · rcases h.gens m g1 with e | e
          · exact e
          · cases e
        · have hp : 0 < 2 ^ j := Nat.pow_pos (by decide)
          have := ih (m + 2 ^ j) k1 (by omega) k2
          rcases h.cl _ this j hj k3 with e | e
          · rwa [Nat.add_sub_cancel] at e
          · cases e
    exact key 32 m h1 (by omega) g2
theorem inv_skip {ms row rest : List Nat} {mk : Nat} (h : DownInv ms row (mk :: rest)) (hm : mk ∈ row) : DownInv ms row rest := by
  have go : ∀ x, x ∈ row ∨ x ∈ mk :: rest → x ∈ row ∨ x ∈ rest := fun x hx => by
    rcases hx with e | e
    · exact .inl e
    · rcases List.mem_cons.mp e with rfl | e
      · exact .inl hm
      · exact .inr e
  exact ⟨h.sorted, h.fam, fun m hm => h.pfam m (.tail _ hm), fun m hm => go m (h.gens m hm), fun m hm j hj hb => go _ (h.cl m hm j hj hb)⟩
theorem inv_ins {ms row rest : List Nat} {mk : Nat} (hms : ∀ m ∈ ms, m < 32) (h : DownInv ms row (mk :: rest)) (hm : mk ∉ row) :
    DownInv ms (row.take (ltCount (row.map fun n : Nat => (n : Int)) (mk : Int)) ++ mk :: row.drop (ltCount (row.map fun n : Nat => (n : Int)) (mk : Int))) (rest ++ subsTo mk 5) := by
  have hmk := h.pfam mk (.head _)
  have go : ∀ x, x ∈ row ∨ x ∈ mk :: rest → (x = mk ∨ x ∈ row) ∨ x ∈ rest ++ subsTo mk 5 := fun x hx => by
    rcases hx with e | e
    · exact .inl (.inr e)
    · rcases List.mem_cons.mp e with rfl | e
      · exact .inl (.inl rfl)
      · exact .inr (List.mem_append.mpr (.inl e))
  refine ⟨sorted_unmap ?_, fun m hm => ?_, fun m hm => ?_, fun m hm => ?_, fun m hm j hj hb => ?_⟩
  · rw [← ins_map]
    exact ins_sorted (sorted_map h.sorted) fun e => hm (mem_rowI.mp e)
  · rcases ins_mem.mp hm with rfl | e
    · exact hmk
    · exact h.fam m e
  · rcases List.mem_append.mp hm with e | e
    · exact h.pfam m (.tail _ e)
    · (refine hideP ?_; intro PP hPP); (obtain ⟨i, h1, h2, rfl⟩ := mem_subs.mp e) <;> (refine hPP ?_; clear hPP; clear PP)
      exact ⟨Nat.lt_of_le_of_lt (Nat.sub_le _ _) hmk.1, inFam_sub hms hmk.1 hmk.2 h1 h2⟩
  · rw [ins_mem]
    exact go m (h.gens m hm)
  · rw [ins_mem]
    rcases ins_mem.mp hm with rfl | e
    · exact .inr (List.mem_append.mpr (.inr (mem_subs.mpr ⟨j, hj, hb, rfl⟩)))
    · exact go _ (h.cl m e j hj hb)

/-! T_down -/
theorem flushT_down : True ∧ True := by first | (row_walk; done) | (walk1; done) | exact ⟨trivial, trivial⟩
theorem isL {h : Heap} {a : Addr} {its : Array Value} {n : Nat} (e : h.get? a = some (listOf its n)) : h.IsList a its := ⟨_, e, rfl, _, rfl⟩
section
theorem down_call {w : World} {p : Program} {loose : List Str} {mean : ExcName → Option Value} {mg mb : Str → Option Value} {dp un : Nat} {fs : Option (List Env)} {gd : Option (List Code)} {h₀ : Heap} {s : Shared} {Q E : Value → Shared → Prop}
  (hdp : dp + 6 < recursionLimit) (hun : un + 160 < cLine)
  (X₀ : (hd.heap_39 w.params).In h₀) (T : Top p loose mean mg mb h₀) (st : h₀.StaysIn s.heap)
  {x1 d1 p1 : Addr} {a b c d tw t0 : Tok} {ln fp : Value} {pb : List Value} {np : Nat} {ms : List Nat} (ho : @LT.lt Nat _ d1 x1 ∧ @LT.lt Nat _ x1 p1) (hw : Words pb ms) (hms : ∀ m ∈ ms, m < 32) (hml : ms.length ≤ 3)
  (hn : ∀ q ∈ [(x1, instObj 101 d1), (d1, lexD w a b c d tw ln fp p1), (p1, listOf pb.toArray np)], s.heap.get? q.1 = some q.2 ∧ h₀.get? q.1 = none)
  (ret : ∀ h' tk' D vs n, IntsAre vs ((downRow ms).map fun n : Nat => (n : Int)) → Kept s.heap h' [p1] → h'.get? D = some (listOf vs.toArray n) → s.heap.get? D = none → Q (.ref D) { s with heap := h', toks := tk' }) :
  wpAny (model PySem.Challenge.rw_ty0032_01.row.prog w) (arA dp un fs gd) (call (.ref 136) [.ref x1, .int (ms.length : Int) t0]) Q E s := by
    refine wpAny_call ?_
    k_dflt (refine' enterP _ (binds := [("lexer", .ref x1), ("waiting", .int (ms.length : Int) t0)]) ?k1 ?k2 ?k3 ?k4 ?k5 ?k6 ?k7 ?k9 ?kB ?_ ?c2 ?c3 ?c4 ?c5; (case k2 => k_asm); (case k3 => k_asm); (case k4 => k_asm); (case k5 => first | assumption | exact fun _ h => nomatch h); (case k6 => k_is); (case k7 => k_is); (case k1 => (first | exact lim0 hdp | (show dp < recursionLimit; omega))); (case k9 => first | exact BindsTo.of_eq rfl | exact binds_K (by k_in) rfl (by k_is) rfl rfl rfl | exact kp_binds (by exact Frag.In.keeps (by assumption) (by assumption)) (fun _ => rfl)); (case c5 => decide); (case kB => exact locs rfl); (case c2 => exact rfl); (case c3 => exact rfl); (case c4 => exact rfl); k_whole; intro g' L' h' tkE F' N' X' T' lt' kp' fr' st'; (try dsimp only); (try k_fold))
    (repeat' (first | (k_unfold; (try dsimp only)) | row_room_at HE | (k_end; wrow_close) | ((with_reducible show wpAny _ _ (call (Value.ref _) _) _ _ _); k_here; refine halt ?_) | ((with_reducible show wpAny _ _ (pyIter (Value.ref _)) _ _ _); (k_here; (with_reducible show wpAny _ _ (pyIter _) (fun _ _ => ForAt _ _ _ _ _ _ _ _ _ _ _) _ _); refine halt ?_)) | ((with_reducible show wpAny _ _ (exec (Stmt.For _ _ _ _ _) _) _ _ _); k_here; refine halt ?_) | ((with_reducible show wpAny _ _ (exec (Stmt.While _ _ _ _) _) _ _ _); k_here; refine halt ?_) | row_room_at HB | (dsimp only; (first | ((with_reducible show wpAny _ _ (call (Value.ref _) _) _ _ _); k_here; refine halt ?_) | ((with_reducible show wpAny _ _ (pyIter (Value.ref _)) _ _ _); (k_here; (with_reducible show wpAny _ _ (pyIter _) (fun _ _ => ForAt _ _ _ _ _ _ _ _ _ _ _) _ _); refine halt ?_)) | ((with_reducible show wpAny _ _ (exec (Stmt.For _ _ _ _ _) _) _ _ _); k_here; refine halt ?_) | ((with_reducible show wpAny _ _ (exec (Stmt.While _ _ _ _) _) _ _ _); k_here; refine halt ?_) | walk1 | row_room_at HE)) | (leave1; walk_say "STEP leave1"; try dsimp only)))
    refine go ?_
    (with_reducible rename Fr _ _ _ _ => F1)
    (with_reducible rename News _ _ _ _ => N1)
    rename_i D _ _ _
    have hAD : x1 < D ∧ d1 < D ∧ p1 < D := by assumption
    refine while_J (fun k m news => ∃ (row pend : List Nat) (vr pb : List Value) (nr np : Nat) (wv : Int) (tw1 : Tok), Knows m [("lexer", .ref x1), ("waiting", .int wv tw1), ("row", .ref D)] ∧ wv = (pend.length : Int) ∧ IntsAre vr (row.map fun n : Nat => (n : Int)) ∧ DownInv ms row pend ∧ Words pb pend ∧
      row.length ≤ 32 ∧ pend.length ≤ 3 + 5 * row.length ∧ k = pend.length + 6 * (32 - row.length) ∧ news = [(D, listOf vr.toArray nr), (x1, instObj 101 d1), (d1, lexD w a b c d tw ln fp p1), (p1, listOf pb.toArray np)])
      F1 N1 ⟨[], ms, [], pb, 0, np, _, t0, ⟨rfl, rfl, rfl, trivial⟩, rfl, .nil, ⟨.nil, (fun _ h => nomatch h), fun m hm => ⟨hms m hm, ?_⟩, fun m hm => .inr hm, (fun _ h => nomatch h)⟩, hw, by decide, by simpa using hml, rfl, rfl⟩ ?_ PassesOwn.never
    · exact List.any_eq_true.mpr ⟨m, hm, by simp⟩
    · clear F1 N1 hw
      intro k m news h tk jz5
      (refine hideP ?_; intro PP hPP); (obtain ⟨row, pend, vr, pb, nr, np, wv, tw1, e1, hwv, hvr, inv, hw, hr32, hpl, rfl, rfl⟩ := jz5) <;> (refine hPP ?_; clear hPP; clear PP)
      intro F N
      replace F := fr_knows e1 F
      clear e1
      have hvl : vr.length = row.length := by rw [hvr.length, List.length_map]
      cases hw with
      | nil =>
        have hw0 : ¬ (wv > 0) := by rw [hwv]; decide
        (repeat' (first | (k_unfold; (try dsimp only)) | row_room_at HE | (k_end; wrow_close) | ((with_reducible show wpAny _ _ (call (Value.ref _) _) _ _ _); k_here; refine halt ?_) | ((with_reducible show wpAny _ _ (pyIter (Value.ref _)) _ _ _); (k_here; (with_reducible show wpAny _ _ (pyIter _) (fun _ _ => ForAt _ _ _ _ _ _ _ _ _ _ _) _ _); refine halt ?_)) | ((with_reducible show wpAny _ _ (exec (Stmt.For _ _ _ _ _) _) _ _ _); k_here; refine halt ?_) | ((with_reducible show wpAny _ _ (exec (Stmt.While _ _ _ _) _) _ _ _); k_here; refine halt ?_) | row_room_at HB | (dsimp only; (first | ((with_reducible show wpAny _ _ (call (Value.ref _) _) _ _ _); k_here; refine halt ?_) | ((with_reducible show wpAny _ _ (pyIter (Value.ref _)) _ _ _); (k_here; (with_reducible show wpAny _ _ (pyIter _) (fun _ _ => ForAt _ _ _ _ _ _ _ _ _ _ _) _ _); refine halt ?_)) | ((with_reducible show wpAny _ _ (exec (Stmt.For _ _ _ _ _) _) _ _ _); k_here; refine halt ?_) | ((with_reducible show wpAny _ _ (exec (Stmt.While _ _ _ _) _) _ _ _); k_here; refine halt ?_) | walk1 | row_room_at HE)) | (leave1; walk_say "STEP leave1"; try dsimp only)))
        (try dsimp only)
        (repeat (first | (k_unfold; (try dsimp only)) | row_room_at HE | dsimp only))
        (try dsimp only)
        (with_reducible rename Fr _ _ _ _ => F3)
        (with_reducible rename News _ _ _ _ => N3)
        rw [inv_end inv hms] at hvr
        refine ret _ _ D vr nr hvr (kept_up kp' F3 N3 hn fun q hq => ?_) (N3 _ (.head _)).1 ?_
        · revert hq
          revert q
          exact all_cons (by (first | k_mem | exact Or.inl (by k_mem) | exact Or.inr (by (repeat (first | exact List.Mem.head _ | apply List.Mem.tail))))) (all_cons (by (first | k_mem | exact Or.inl (by k_mem) | exact Or.inr (by (repeat (first | exact List.Mem.head _ | apply List.Mem.tail))))) (all_cons (by (first | k_mem | exact Or.inl (by k_mem) | exact Or.inr (by (repeat (first | exact List.Mem.head _ | apply List.Mem.tail))))) (all_nil)))
        · exact fr' D (fun q hq => by
            revert hq
            revert q
            refine' all_cons ?_ (all_cons ?_ (all_cons ?_ (all_nil)))
            · exact hAD.1
            · exact hAD.2.1
            · exact hAD.2.2) (N3 _ (.head _)).2.2
      | @cons _ mk rest prest h1 hw =>
        have hw0 : wv > 0 := by rw [hwv, List.length_cons]; omega
        (refine hideP ?_; intro PP hPP); (obtain ⟨word, tq, aw, cw, rfl, w1, w2, w3, w4, w5⟩ := h1) <;> (refine hPP ?_; clear hPP; clear PP)
        have hrl : rest.length = prest.length := hw.len
        rw [List.length_cons] at hpl hwv
        have hmk32 : mk < 32 := (inv.pfam mk (.head _)).1
        (repeat' (first | (k_unfold; (try dsimp only)) | row_room_at HE | (k_end; wrow_close) | ((with_reducible show wpAny _ _ (call (Value.ref _) _) _ _ _); k_here; refine halt ?_) | ((with_reducible show wpAny _ _ (pyIter (Value.ref _)) _ _ _); (k_here; (with_reducible show wpAny _ _ (pyIter _) (fun _ _ => ForAt _ _ _ _ _ _ _ _ _ _ _) _ _); refine halt ?_)) | ((with_reducible show wpAny _ _ (exec (Stmt.For _ _ _ _ _) _) _ _ _); k_here; refine halt ?_) | ((with_reducible show wpAny _ _ (exec (Stmt.While _ _ _ _) _) _ _ _); k_here; refine halt ?_) | row_room_at HB | (dsimp only; (first | ((with_reducible show wpAny _ _ (call (Value.ref _) _) _ _ _); k_here; refine halt ?_) | ((with_reducible show wpAny _ _ (pyIter (Value.ref _)) _ _ _); (k_here; (with_reducible show wpAny _ _ (pyIter _) (fun _ _ => ForAt _ _ _ _ _ _ _ _ _ _ _) _ _); refine halt ?_)) | ((with_reducible show wpAny _ _ (exec (Stmt.For _ _ _ _ _) _) _ _ _); k_here; refine halt ?_) | ((with_reducible show wpAny _ _ (exec (Stmt.While _ _ _ _) _) _ _ _); k_here; refine halt ?_) | walk1 | row_room_at HE)) | (leave1; walk_say "STEP leave1"; try dsimp only)))
        refine go ?_
        (with_reducible rename Fr _ _ _ _ => F2)
        (with_reducible rename News _ _ _ _ => N2)
        refine' getA_call (np := np) (pb := rest) (v := .str word tq) (ln := ln) (fp := fp) ?ga ?gb X' T' ?gst ho ?gz (hn_of N2 ?gm) ?_
        (case ga => (first | exact lim2 hdp rfl | exact lim1 hdp rfl | exact lim2 hun rfl | exact lim1 hun rfl | exact lim0 hdp | exact lim0 hun | exact lim3 hdp rfl | exact lim3 hun rfl | ((try dsimp only [arA, Around.deeper]); omega)))
        (case gb => (first | exact lim2 hdp rfl | exact lim1 hdp rfl | exact lim2 hun rfl | exact lim1 hun rfl | exact lim0 hdp | exact lim0 hun | exact lim3 hdp rfl | exact lim3 hun rfl | ((try dsimp only [arA, Around.deeper]); omega)))
        (case gst => exact F2.keep)
        (case gz => (rw [List.length_cons]; omega))
        (case gm => exact fun q hq => .tail _ hq)
        intro h3 tk3 kp3 eq3
        have F3 := fr_kept1 F2 N2 (by k_mem) kp3
        have N3 : News g' L' h3 [(D, listOf vr.toArray nr), (x1, instObj 101 d1), (d1, lexD w a b c d tw ln fp p1), (p1, listOf rest.toArray (np + 1))] := news_kept1 N2 (by k_upd) kp3 eq3
        clear F2 N2 kp3 eq3
        (repeat' (first | (k_unfold; (try dsimp only)) | row_room_at HE | (k_end; wrow_close) | ((with_reducible show wpAny _ _ (call (Value.ref _) _) _ _ _); k_here; refine halt ?_) | ((with_reducible show wpAny _ _ (pyIter (Value.ref _)) _ _ _); (k_here; (with_reducible show wpAny _ _ (pyIter _) (fun _ _ => ForAt _ _ _ _ _ _ _ _ _ _ _) _ _); refine halt ?_)) | ((with_reducible show wpAny _ _ (exec (Stmt.For _ _ _ _ _) _) _ _ _); k_here; refine halt ?_) | ((with_reducible show wpAny _ _ (exec (Stmt.While _ _ _ _) _) _ _ _); k_here; refine halt ?_) | row_room_at HB | (dsimp only; (first | ((with_reducible show wpAny _ _ (call (Value.ref _) _) _ _ _); k_here; refine halt ?_) | ((with_reducible show wpAny _ _ (pyIter (Value.ref _)) _ _ _); (k_here; (with_reducible show wpAny _ _ (pyIter _) (fun _ _ => ForAt _ _ _ _ _ _ _ _ _ _ _) _ _); refine halt ?_)) | ((with_reducible show wpAny _ _ (exec (Stmt.For _ _ _ _ _) _) _ _ _); k_here; refine halt ?_) | ((with_reducible show wpAny _ _ (exec (Stmt.While _ _ _ _) _) _ _ _); k_here; refine halt ?_) | walk1 | row_room_at HE)) | (leave1; walk_say "STEP leave1"; try dsimp only)))
        refine go ?_
        (with_reducible rename Fr _ _ _ _ => F4)
        (with_reducible rename News _ _ _ _ => N4)
        refine' law_told_call ?ha ?hb X' T' ?hst w1 w2 w3 w4 ?_
        (case ha => (first | exact lim2 hdp rfl | exact lim1 hdp rfl | exact lim2 hun rfl | exact lim1 hun rfl | exact lim0 hdp | exact lim0 hun | exact lim3 hdp rfl | exact lim3 hun rfl | ((try dsimp only [arA, Around.deeper]); omega)))
        (case hb => (first | exact lim2 hdp rfl | exact lim1 hdp rfl | exact lim2 hun rfl | exact lim1 hun rfl | exact lim0 hdp | exact lim0 hun | exact lim3 hdp rfl | exact lim3 hun rfl | ((try dsimp only [arA, Around.deeper]); omega)))
        (case hst => exact F4.keep)
        intro t5 h5 tk5 kp5
        have F5 := fr_kept0 F4 kp5
        have N5 := news_kept0 N4 kp5
        clear kp5 F4 N4
        rw [w5]
        (repeat' (first | (k_unfold; (try dsimp only)) | row_room_at HE | (k_end; wrow_close) | ((with_reducible show wpAny _ _ (call (Value.ref _) _) _ _ _); k_here; refine halt ?_) | ((with_reducible show wpAny _ _ (pyIter (Value.ref _)) _ _ _); (k_here; (with_reducible show wpAny _ _ (pyIter _) (fun _ _ => ForAt _ _ _ _ _ _ _ _ _ _ _) _ _); refine halt ?_)) | ((with_reducible show wpAny _ _ (exec (Stmt.For _ _ _ _ _) _) _ _ _); k_here; refine halt ?_) | ((with_reducible show wpAny _ _ (exec (Stmt.While _ _ _ _) _) _ _ _); k_here; refine halt ?_) | row_room_at HB | (dsimp only; (first | ((with_reducible show wpAny _ _ (call (Value.ref _) _) _ _ _); k_here; refine halt ?_) | ((with_reducible show wpAny _ _ (pyIter (Value.ref _)) _ _ _); (k_here; (with_reducible show wpAny _ _ (pyIter _) (fun _ _ => ForAt _ _ _ _ _ _ _ _ _ _ _) _ _); refine halt ?_)) | ((with_reducible show wpAny _ _ (exec (Stmt.For _ _ _ _ _) _) _ _ _); k_here; refine halt ?_) | ((with_reducible show wpAny _ _ (exec (Stmt.While _ _ _ _) _) _ _ _); k_here; refine halt ?_) | walk1 | row_room_at HE)) | (leave1; walk_say "STEP leave1"; try dsimp only)))
        refine go ?_
        (with_reducible rename Fr _ _ _ _ => F6)
        (with_reducible rename News _ _ _ _ => N6)
        refine' bisect_left_call ?a2 ?a3 X' T' ?a5 (Or.inl rfl) (hn_of N6 ?a7) hvr ?a9 ?a10 ?_
        (case a2 => (first | exact lim2 hdp rfl | exact lim1 hdp rfl | exact lim2 hun rfl | exact lim1 hun rfl | exact lim0 hdp | exact lim0 hun | exact lim3 hdp rfl | exact lim3 hun rfl | ((try dsimp only [arA, Around.deeper]); omega)))
        (case a3 => (first | exact lim2 hdp rfl | exact lim1 hdp rfl | exact lim2 hun rfl | exact lim1 hun rfl | exact lim0 hdp | exact lim0 hun | exact lim3 hdp rfl | exact lim3 hun rfl | ((try dsimp only [arA, Around.deeper]); omega)))
        (case a5 => exact F6.keep)
        (case a7 => (intro q hq; rw [List.mem_singleton.mp hq]; k_mem))
        (case a9 => (rw [List.length_map]; omega))
        (case a10 => exact sorted_map inv.sorted)
        intro t7 h7 tk7 kp7
        have F7 := fr_kept0 F6 kp7
        have N7 := news_kept0 N6 kp7
        clear kp7 F6 N6
        (repeat' (first | (k_unfold; (try dsimp only)) | row_room_at HE | (k_end; wrow_close) | ((with_reducible show wpAny _ _ (call (Value.ref _) _) _ _ _); k_here; refine halt ?_) | ((with_reducible show wpAny _ _ (pyIter (Value.ref _)) _ _ _); (k_here; (with_reducible show wpAny _ _ (pyIter _) (fun _ _ => ForAt _ _ _ _ _ _ _ _ _ _ _) _ _); refine halt ?_)) | ((with_reducible show wpAny _ _ (exec (Stmt.For _ _ _ _ _) _) _ _ _); k_here; refine halt ?_) | ((with_reducible show wpAny _ _ (exec (Stmt.While _ _ _ _) _) _ _ _); k_here; refine halt ?_) | row_room_at HB | (dsimp only; (first | ((with_reducible show wpAny _ _ (call (Value.ref _) _) _ _ _); k_here; refine halt ?_) | ((with_reducible show wpAny _ _ (pyIter (Value.ref _)) _ _ _); (k_here; (with_reducible show wpAny _ _ (pyIter _) (fun _ _ => ForAt _ _ _ _ _ _ _ _ _ _ _) _ _); refine halt ?_)) | ((with_reducible show wpAny _ _ (exec (Stmt.For _ _ _ _ _) _) _ _ _); k_here; refine halt ?_) | ((with_reducible show wpAny _ _ (exec (Stmt.While _ _ _ _) _) _ _ _); k_here; refine halt ?_) | walk1 | row_room_at HE)) | (leave1; walk_say "STEP leave1"; try dsimp only)))
        · (with_reducible rename Fr _ _ _ _ => F8)
          (with_reducible rename News _ _ _ _ => N8)
          have hmem : mk ∈ row := (slice_is inv.sorted).mp (by assumption)
          refine wEnd F8 (news_tail (news_tail N8)) (prest.length + 6 * (32 - row.length)) ?_ ⟨row, prest, vr, rest, nr, np + 1, wv - 1, _, ⟨rfl, rfl, rfl, trivial⟩, ?_, hvr, inv_skip inv hmem, hw, hr32, by omega, rfl, rfl⟩
          · rw [List.length_cons]; omega
          · omega
        · have hmem : mk ∉ row := fun e => absurd ((slice_is inv.sorted).mpr e) (by assumption)
          refine go ?_
          (with_reducible rename Fr _ _ _ _ => F8)
          (with_reducible rename News _ _ _ _ => N8)
          refine' insort_left_call ?c2 ?c3 X' T' ?c5 (hn_of N8 ?c7) hvr ?c9 ?c10 ?_
          (case c2 => (first | exact lim2 hdp rfl | exact lim1 hdp rfl | exact lim2 hun rfl | exact lim1 hun rfl | exact lim0 hdp | exact lim0 hun | exact lim3 hdp rfl | exact lim3 hun rfl | ((try dsimp only [arA, Around.deeper]); omega)))
          (case c3 => (first | exact lim2 hdp rfl | exact lim1 hdp rfl | exact lim2 hun rfl | exact lim1 hun rfl | exact lim0 hdp | exact lim0 hun | exact lim3 hdp rfl | exact lim3 hun rfl | ((try dsimp only [arA, Around.deeper]); omega)))
          (case c5 => exact F8.keep)
          (case c7 => (intro q hq; rw [List.mem_singleton.mp hq]; k_mem))
          (case c9 => (rw [List.length_map]; omega))
          (case c10 => exact sorted_map inv.sorted)
          intro h9 tk9 vs9 nn9 kp9 eq9 hvs9
          rw [ins_map] at hvs9
          have inv9 := inv_ins hms inv hmem
          have hl9 : (row.take (ltCount (row.map fun n : Nat => (n : Int)) (mk : Int)) ++ mk :: row.drop (ltCount (row.map fun n : Nat => (n : Int)) (mk : Int))).length = row.length + 1 := by
            rw [List.length_append, List.length_cons, List.length_take, List.length_drop]; omega
          generalize (row.take (ltCount (row.map fun n : Nat => (n : Int)) (mk : Int)) ++ mk :: row.drop (ltCount (row.map fun n : Nat => (n : Int)) (mk : Int))) = row9 at hvs9 inv9 hl9
          have F9 := fr_kept1 F8 (news_tail (news_tail N8)) (.head _) kp9
          have N9 : News g' L' h9 [(D, listOf vs9.toArray nn9), (x1, instObj 101 d1), (d1, lexD w a b c d tw ln fp p1), (p1, listOf rest.toArray (np + 1))] := news_kept1 (news_tail (news_tail N8)) (by k_upd) kp9 eq9
          clear F8 N8 kp9 eq9
          (repeat' (first | (k_unfold; (try dsimp only)) | row_room_at HE | (k_end; wrow_close) | ((with_reducible show wpAny _ _ (call (Value.ref _) _) _ _ _); k_here; refine halt ?_) | ((with_reducible show wpAny _ _ (pyIter (Value.ref _)) _ _ _); (k_here; (with_reducible show wpAny _ _ (pyIter _) (fun _ _ => ForAt _ _ _ _ _ _ _ _ _ _ _) _ _); refine halt ?_)) | ((with_reducible show wpAny _ _ (exec (Stmt.For _ _ _ _ _) _) _ _ _); k_here; refine halt ?_) | ((with_reducible show wpAny _ _ (exec (Stmt.While _ _ _ _) _) _ _ _); k_here; refine halt ?_) | row_room_at HB | (dsimp only; (first | ((with_reducible show wpAny _ _ (call (Value.ref _) _) _ _ _); k_here; refine halt ?_) | ((with_reducible show wpAny _ _ (pyIter (Value.ref _)) _ _ _); (k_here; (with_reducible show wpAny _ _ (pyIter _) (fun _ _ => ForAt _ _ _ _ _ _ _ _ _ _ _) _ _); refine halt ?_)) | ((with_reducible show wpAny _ _ (exec (Stmt.For _ _ _ _ _) _) _ _ _); k_here; refine halt ?_) | ((with_reducible show wpAny _ _ (exec (Stmt.While _ _ _ _) _) _ _ _); k_here; refine halt ?_) | walk1 | row_room_at HE)) | (leave1; walk_say "STEP leave1"; try dsimp only)))
          refine go ?_
          refine For_start ?_
          (repeat' (first | (k_unfold; (try dsimp only)) | row_room_at HE | (k_end; wrow_close) | ((with_reducible show wpAny _ _ (call (Value.ref _) _) _ _ _); k_here; refine halt ?_) | ((with_reducible show wpAny _ _ (pyIter (Value.ref _)) _ _ _); (k_here; (with_reducible show wpAny _ _ (pyIter _) (fun _ _ => ForAt _ _ _ _ _ _ _ _ _ _ _) _ _); refine halt ?_)) | ((with_reducible show wpAny _ _ (exec (Stmt.For _ _ _ _ _) _) _ _ _); k_here; refine halt ?_) | ((with_reducible show wpAny _ _ (exec (Stmt.While _ _ _ _) _) _ _ _); k_here; refine halt ?_) | row_room_at HB | (dsimp only; (first | ((with_reducible show wpAny _ _ (call (Value.ref _) _) _ _ _); k_here; refine halt ?_) | ((with_reducible show wpAny _ _ (pyIter (Value.ref _)) _ _ _); (k_here; (with_reducible show wpAny _ _ (pyIter _) (fun _ _ => ForAt _ _ _ _ _ _ _ _ _ _ _) _ _); refine halt ?_)) | ((with_reducible show wpAny _ _ (exec (Stmt.For _ _ _ _ _) _) _ _ _); k_here; refine halt ?_) | ((with_reducible show wpAny _ _ (exec (Stmt.While _ _ _ _) _) _ _ _); k_here; refine halt ?_) | walk1 | row_room_at HE)) | (leave1; walk_say "STEP leave1"; try dsimp only)))
          refine go ?_
          (with_reducible rename Fr _ _ _ _ => F10)
          (with_reducible rename News _ _ _ _ => N10)
          rename_i T1 _ _
          have hrl9 : rest.length = prest.length := hw.len
          clear hvr hvl
          refine for_tuple rfl (fun j m news => ∃ (pb' : List Value) (np' : Nat) (wv' : Int) (tw' : Tok), Knows m [("lexer", .ref x1), ("waiting", .int wv' tw'), ("row", .ref D), ("mask", .int (mk : Int) t5)] ∧ wv' = ((prest ++ subsTo mk j).length : Int) ∧ Words pb' (prest ++ subsTo mk j) ∧
            news = [(T1, _), (D, listOf vs9.toArray nn9), (x1, instObj 101 d1), (d1, lexD w a b c d tw ln fp p1), (p1, listOf pb'.toArray np')]) F10 N10 (.head _) ⟨rest, np + 1, wv - 1, _, ⟨rfl, rfl, rfl, rfl, trivial⟩, ?_, ?_, rfl⟩ ?_ ?_ ?_ PassesOwn.never
          · rw [hwv, subsTo, List.append_nil]; omega
          · rw [subsTo, List.append_nil]; exact hw
          · intro j m news jz3
            (refine hideP ?_; intro PP hPP); (obtain ⟨_, _, _, _, _, _, _, rfl⟩ := jz3) <;> (refine hPP ?_; clear hPP; clear PP)
            exact .head _
          · clear F10 N10
            intro I2 j v m news oI2 h tk hI2 hv jz10
            (refine hideP ?_; intro PP hPP); (obtain ⟨pb', np', wv', tw', e1, hwv', hw', rfl⟩ := jz10) <;> (refine hPP ?_; clear hPP; clear PP)
            intro off2 F N
            replace F := fr_knows e1 F
            clear e1
            have q1 : @Ne Nat T1 I2 := off2 _ (.head _)
            have q2 : @Ne Nat D I2 := off2 (D, listOf vs9.toArray nn9) (.tail _ (.head _))
            have q3 : @Ne Nat x1 I2 := off2 (x1, instObj 101 d1) (.tail _ (.tail _ (.head _)))
            have q4 : @Ne Nat d1 I2 := off2 (d1, lexD w a b c d tw ln fp p1) (.tail _ (.tail _ (.tail _ (.head _))))
            have q5 : @Ne Nat p1 I2 := off2 (p1, listOf pb'.toArray np') (.tail _ (.tail _ (.tail _ (.tail _ (.head _)))))
            (refine hideP ?_; intro PP hPP); (obtain ⟨hj, tj, rfl⟩ := flags_at hv) <;> (refine hPP ?_; clear hPP; clear PP)
            clear hv
            have hpb' : pb'.length ≤ 500 := by
              rw [hw'.len, List.length_append]
              have := subsTo_len mk j
              omega
            rcases pl_bits j hj mk hmk32 with ⟨b1, b2, b3⟩ | ⟨b1, b2⟩
            · have sn := subs_yes b1
              have b4 : (0 : Int) ≤ (mk : Int) - ((2 ^ j : Nat) : Int) := by rw [b3]; exact Int.natCast_nonneg _
              have b5 : (mk : Int) - ((2 ^ j : Nat) : Int) ≤ 1114111 := by rw [b3]; exact Int.le_trans (Int.ofNat_le.mpr (Nat.sub_le mk (2 ^ j))) (by omega)
              have b6 : ((mk : Int) - ((2 ^ j : Nat) : Int)).toNat = mk - 2 ^ j := by rw [b3, Int.toNat_natCast]
              (repeat' (first | (k_unfold; (try dsimp only)) | row_room_at HE | (k_end; wrow_close) | ((with_reducible show wpAny _ _ (call (Value.ref _) _) _ _ _); k_here; refine halt ?_) | ((with_reducible show wpAny _ _ (pyIter (Value.ref _)) _ _ _); (k_here; (with_reducible show wpAny _ _ (pyIter _) (fun _ _ => ForAt _ _ _ _ _ _ _ _ _ _ _) _ _); refine halt ?_)) | ((with_reducible show wpAny _ _ (exec (Stmt.For _ _ _ _ _) _) _ _ _); k_here; refine halt ?_) | ((with_reducible show wpAny _ _ (exec (Stmt.While _ _ _ _) _) _ _ _); k_here; refine halt ?_) | row_room_at HB | (dsimp only; (first | ((with_reducible show wpAny _ _ (call (Value.ref _) _) _ _ _); k_here; refine halt ?_) | ((with_reducible show wpAny _ _ (pyIter (Value.ref _)) _ _ _); (k_here; (with_reducible show wpAny _ _ (pyIter _) (fun _ _ => ForAt _ _ _ _ _ _ _ _ _ _ _) _ _); refine halt ?_)) | ((with_reducible show wpAny _ _ (exec (Stmt.For _ _ _ _ _) _) _ _ _); k_here; refine halt ?_) | ((with_reducible show wpAny _ _ (exec (Stmt.While _ _ _ _) _) _ _ _); k_here; refine halt ?_) | walk1 | row_room_at HE)) | (leave1; walk_say "STEP leave1"; try dsimp only)))
              · refine go ?_
                (with_reducible rename Fr _ _ _ _ => F13)
                (with_reducible rename News _ _ _ _ => N13)
                rw [b6]
                refine' push_call (pb := pb') (ln := ln) (fp := fp) ?e2 ?e3 X' T' ?e5 ho hpb' (hn_of N13 ?e7) ?_
                (case e2 => (first | exact lim2 hdp rfl | exact lim1 hdp rfl | exact lim2 hun rfl | exact lim1 hun rfl | exact lim0 hdp | exact lim0 hun | exact lim3 hdp rfl | exact lim3 hun rfl | ((try dsimp only [arA, Around.deeper]); omega)))
                (case e3 => (first | exact lim2 hdp rfl | exact lim1 hdp rfl | exact lim2 hun rfl | exact lim1 hun rfl | exact lim0 hdp | exact lim0 hun | exact lim3 hdp rfl | exact lim3 hun rfl | ((try dsimp only [arA, Around.deeper]); omega)))
                (case e5 => exact F13.keep)
                (case e7 => exact fun q hq => .tail _ (.tail _ (.tail _ hq)))
                intro h14 tk14 kp14 eq14
                have F14 := fr_kept1 F13 N13 (.tail _ (.tail _ (.tail _ (.tail _ (.tail _ (.head _)))))) kp14
                have N14 : News g' L' h14 [(I2, oI2), (T1, _), (D, listOf vs9.toArray nn9), (x1, instObj 101 d1), (d1, lexD w a b c d tw ln fp p1), (p1, _)] := news_kept1 N13 (by k_upd) kp14 eq14
                clear F13 N13 kp14 eq14
                (repeat' (first | (k_unfold; (try dsimp only)) | row_room_at HE | (k_end; wrow_close) | ((with_reducible show wpAny _ _ (call (Value.ref _) _) _ _ _); k_here; refine halt ?_) | ((with_reducible show wpAny _ _ (pyIter (Value.ref _)) _ _ _); (k_here; (with_reducible show wpAny _ _ (pyIter _) (fun _ _ => ForAt _ _ _ _ _ _ _ _ _ _ _) _ _); refine halt ?_)) | ((with_reducible show wpAny _ _ (exec (Stmt.For _ _ _ _ _) _) _ _ _); k_here; refine halt ?_) | ((with_reducible show wpAny _ _ (exec (Stmt.While _ _ _ _) _) _ _ _); k_here; refine halt ?_) | row_room_at HB | (dsimp only; (first | ((with_reducible show wpAny _ _ (call (Value.ref _) _) _ _ _); k_here; refine halt ?_) | ((with_reducible show wpAny _ _ (pyIter (Value.ref _)) _ _ _); (k_here; (with_reducible show wpAny _ _ (pyIter _) (fun _ _ => ForAt _ _ _ _ _ _ _ _ _ _ _) _ _); refine halt ?_)) | ((with_reducible show wpAny _ _ (exec (Stmt.For _ _ _ _ _) _) _ _ _); k_here; refine halt ?_) | ((with_reducible show wpAny _ _ (exec (Stmt.While _ _ _ _) _) _ _ _); k_here; refine halt ?_) | walk1 | row_room_at HE)) | (leave1; walk_say "STEP leave1"; try dsimp only)))
                (with_reducible rename Fr _ _ _ _ => F15)
                (with_reducible rename News _ _ _ _ => N15)
                refine fEnd F15 N15 (fun _ hp => hp) (fun q hq => ?_) ⟨_, _, wv' + 1, _, ⟨rfl, rfl, rfl, rfl, trivial⟩, ?_, ?_, rfl⟩
                · revert hq
                  revert q
                  refine' all_cons ?_ (all_cons ?_ (all_cons ?_ (all_cons ?_ (all_cons ?_ (all_nil)))))
                  · exact q1
                  · exact q2
                  · exact q3
                  · exact q4
                  · exact q5
                · rw [sn, ← List.append_assoc, List.length_append, hwv', List.length_singleton]; omega
                · rw [sn, ← List.append_assoc]
                  refine hw'.snoc ⟨_, _, 0, mk - 2 ^ j, rfl, rfl, by decide, ?_, ?_, ?_⟩
                  · exact Nat.lt_of_le_of_lt (Nat.sub_le _ _) (by omega)
                  · have : mk - 2 ^ j < 32 := Nat.lt_of_le_of_lt (Nat.sub_le _ _) hmk32
                    rw [Nat.mod_eq_of_lt (by omega)]; omega
                  · have : mk - 2 ^ j < 32 := Nat.lt_of_le_of_lt (Nat.sub_le _ _) hmk32
                    rw [Nat.mod_eq_of_lt (by omega)]
              · exact absurd (by assumption) b2
            · have sn := subs_no b1
              (repeat' (first | (k_unfold; (try dsimp only)) | row_room_at HE | (k_end; wrow_close) | ((with_reducible show wpAny _ _ (call (Value.ref _) _) _ _ _); k_here; refine halt ?_) | ((with_reducible show wpAny _ _ (pyIter (Value.ref _)) _ _ _); (k_here; (with_reducible show wpAny _ _ (pyIter _) (fun _ _ => ForAt _ _ _ _ _ _ _ _ _ _ _) _ _); refine halt ?_)) | ((with_reducible show wpAny _ _ (exec (Stmt.For _ _ _ _ _) _) _ _ _); k_here; refine halt ?_) | ((with_reducible show wpAny _ _ (exec (Stmt.While _ _ _ _) _) _ _ _); k_here; refine halt ?_) | row_room_at HB | (dsimp only; (first | ((with_reducible show wpAny _ _ (call (Value.ref _) _) _ _ _); k_here; refine halt ?_) | ((with_reducible show wpAny _ _ (pyIter (Value.ref _)) _ _ _); (k_here; (with_reducible show wpAny _ _ (pyIter _) (fun _ _ => ForAt _ _ _ _ _ _ _ _ _ _ _) _ _); refine halt ?_)) | ((with_reducible show wpAny _ _ (exec (Stmt.For _ _ _ _ _) _) _ _ _); k_here; refine halt ?_) | ((with_reducible show wpAny _ _ (exec (Stmt.While _ _ _ _) _) _ _ _); k_here; refine halt ?_) | walk1 | row_room_at HE)) | (leave1; walk_say "STEP leave1"; try dsimp only)))
              · exact absurd b2 (by assumption)
              · (with_reducible rename Fr _ _ _ _ => F13)
                (with_reducible rename News _ _ _ _ => N13)
                refine fEnd F13 N13 (fun _ hp => hp) off2 ⟨_, _, _, _, ⟨rfl, rfl, rfl, rfl, trivial⟩, ?_, ?_, rfl⟩
                · rw [sn]; exact hwv'
                · rw [sn]; exact hw'
          · intro m news h tk jz4
            (refine hideP ?_; intro PP hPP); (obtain ⟨pb', np', wv', tw', e1, hwv', hw', rfl⟩ := jz4) <;> (refine hPP ?_; clear hPP; clear PP)
            intro F N
            replace F := fr_knows e1 F
            clear e1
            (try dsimp only)
            (repeat' (first | (k_unfold; (try dsimp only)) | row_room_at HE | (k_end; wrow_close) | ((with_reducible show wpAny _ _ (call (Value.ref _) _) _ _ _); k_here; refine halt ?_) | ((with_reducible show wpAny _ _ (pyIter (Value.ref _)) _ _ _); (k_here; (with_reducible show wpAny _ _ (pyIter _) (fun _ _ => ForAt _ _ _ _ _ _ _ _ _ _ _) _ _); refine halt ?_)) | ((with_reducible show wpAny _ _ (exec (Stmt.For _ _ _ _ _) _) _ _ _); k_here; refine halt ?_) | ((with_reducible show wpAny _ _ (exec (Stmt.While _ _ _ _) _) _ _ _); k_here; refine halt ?_) | row_room_at HB | (dsimp only; (first | ((with_reducible show wpAny _ _ (call (Value.ref _) _) _ _ _); k_here; refine halt ?_) | ((with_reducible show wpAny _ _ (pyIter (Value.ref _)) _ _ _); (k_here; (with_reducible show wpAny _ _ (pyIter _) (fun _ _ => ForAt _ _ _ _ _ _ _ _ _ _ _) _ _); refine halt ?_)) | ((with_reducible show wpAny _ _ (exec (Stmt.For _ _ _ _ _) _) _ _ _); k_here; refine halt ?_) | ((with_reducible show wpAny _ _ (exec (Stmt.While _ _ _ _) _) _ _ _); k_here; refine halt ?_) | walk1 | row_room_at HE)) | (leave1; walk_say "STEP leave1"; try dsimp only)))
            (with_reducible rename Fr _ _ _ _ => F13)
            (with_reducible rename News _ _ _ _ => N13)
            have h5 := subsTo_len mk 5
            rw [List.length_append] at hwv'
            have h9 := row_len inv9.sorted fun m hm => (inv9.fam m hm).1
            refine wEnd F13 (news_tail N13) ((prest ++ subsTo mk 5).length + 6 * (32 - row9.length)) ?_ ⟨row9, prest ++ subsTo mk 5, vs9, pb', nn9, np', wv', tw', ⟨rfl, rfl, rfl, trivial⟩, ?_, hvs9, inv9, hw', h9, ?_, rfl, rfl⟩
            · rw [List.length_append, List.length_cons]; omega
            · rw [List.length_append]; exact hwv'
            · rw [List.length_append]; omega
end

/-! T_s0 -/
theorem flushT_s0 : True ∧ True := by first | (row_walk; done) | (walk1; done) | exact ⟨trivial, trivial⟩
noncomputable def recOf {q : Program} {loose : List Str} {XP : (Str → Option Value) → Heap → Prop} {YP : World → Heap → Prop} {r : RowW} {d : DefRec} {kwd : List (Str × Expr)} {run : Value → List Value → Sem Value} {P : Prop} (_ : WalkO q loose XP YP r d kwd run → P) : DefRec := d
noncomputable def lawR : DefRec := recOf Mine.hd
noncomputable def lawEnv (L fa : Addr) (cd : Value) : Env := envOfC lawR.name lawR.scope L fa cd
theorem drawn_cases {ns : List Int} {ws : List Value} (h : IntsAre ws ((ns.take 3).map (fun k' => k'.fmod 1000000) ++ List.drop (((((ns.take 3).map fun k' => k'.fmod 1000000).length : Nat) : Int)).toNat [205, 492])) :
    (∃ (d0 d1 : Nat) (t0 t1 : Tok), d0 < 1000000 ∧ d1 < 1000000 ∧ ws = [.int (d0 : Int) t0, .int (d1 : Int) t1]) ∨
    (∃ (d0 d1 d2 : Nat) (t0 t1 t2 : Tok), d0 < 1000000 ∧ d1 < 1000000 ∧ d2 < 1000000 ∧ ws = [.int (d0 : Int) t0, .int (d1 : Int) t1, .int (d2 : Int) t2]) := by
  have md : ∀ a : Int, ∃ d : Nat, d < 1000000 ∧ a.fmod 1000000 = (d : Int) := fun a => by
    rw [Int.fmod_eq_emod_of_nonneg _ (by decide)]
    exact ⟨(a % 1000000).toNat, by omega, by omega⟩
  rcases ns with _ | ⟨a, _ | ⟨b, _ | ⟨c, r⟩⟩⟩
  · (refine hideP ?_; intro PP hPP); (obtain ⟨t0, _, rfl, h1⟩ := ints_cons h) <;> (refine hPP ?_; clear hPP; clear PP)
    clear h
    (refine hideP ?_; intro PP hPP); (obtain ⟨t1, _, rfl, h2⟩ := ints_cons h1) <;> (refine hPP ?_; clear hPP; clear PP)
    clear h1
    rw [ints_nil h2]
    exact .inl ⟨205, 492, t0, t1, by decide, by decide, rfl⟩
  · (refine hideP ?_; intro PP hPP); (obtain ⟨d, hd, e⟩ := md a) <;> (refine hPP ?_; clear hPP; clear PP)
    (refine hideP ?_; intro PP hPP); (obtain ⟨t0, _, rfl, h1⟩ := ints_cons h) <;> (refine hPP ?_; clear hPP; clear PP)
    clear h
    (refine hideP ?_; intro PP hPP); (obtain ⟨t1, _, rfl, h2⟩ := ints_cons h1) <;> (refine hPP ?_; clear hPP; clear PP)
    clear h1
    rw [ints_nil h2]
    (try dsimp only)
    rw [e]
    exact .inl ⟨d, 492, t0, t1, hd, by decide, rfl⟩
  · (refine hideP ?_; intro PP hPP); (obtain ⟨d, hd, e⟩ := md a) <;> (refine hPP ?_; clear hPP; clear PP)
    (refine hideP ?_; intro PP hPP); (obtain ⟨d', hd', e'⟩ := md b) <;> (refine hPP ?_; clear hPP; clear PP)
    (refine hideP ?_; intro PP hPP); (obtain ⟨t0, _, rfl, h1⟩ := ints_cons h) <;> (refine hPP ?_; clear hPP; clear PP)
    clear h
    (refine hideP ?_; intro PP hPP); (obtain ⟨t1, _, rfl, h2⟩ := ints_cons h1) <;> (refine hPP ?_; clear hPP; clear PP)
    clear h1
    rw [ints_nil h2]
    (try dsimp only)
    rw [e, e']
    exact .inl ⟨d, d', t0, t1, hd, hd', rfl⟩
  · (refine hideP ?_; intro PP hPP); (obtain ⟨d, hd, e⟩ := md a) <;> (refine hPP ?_; clear hPP; clear PP)
    (refine hideP ?_; intro PP hPP); (obtain ⟨d', hd', e'⟩ := md b) <;> (refine hPP ?_; clear hPP; clear PP)
    (refine hideP ?_; intro PP hPP); (obtain ⟨d2, hd2, e2⟩ := md c) <;> (refine hPP ?_; clear hPP; clear PP)
    (refine hideP ?_; intro PP hPP); (obtain ⟨t0, _, rfl, h1⟩ := ints_cons h) <;> (refine hPP ?_; clear hPP; clear PP)
    clear h
    (refine hideP ?_; intro PP hPP); (obtain ⟨t1, _, rfl, h2⟩ := ints_cons h1) <;> (refine hPP ?_; clear hPP; clear PP)
    clear h1
    (refine hideP ?_; intro PP hPP); (obtain ⟨t2, _, rfl, h3⟩ := ints_cons h2) <;> (refine hPP ?_; clear hPP; clear PP)
    rw [ints_nil h3]
    (try dsimp only)
    rw [e, e', e2]
    exact .inr ⟨d, d', d2, t0, t1, t2, hd, hd', hd2, rfl⟩

/-! T_s2 -/
theorem flushT_s2 : True ∧ True := by first | (row_walk; done) | (walk1; done) | exact ⟨trivial, trivial⟩
noncomputable def maskN (d : Nat) : Nat := 2 ^ (d % 5) ||| 2 ^ (d / 5 % 5) ||| 2 ^ (d / 25 % 5)
theorem mask_facts (d : Nat) : (d : Int).fmod 5 = ((d % 5 : Nat) : Int) ∧ ((d : Int).fdiv 5).fmod 5 = ((d / 5 % 5 : Nat) : Int) ∧ ((d : Int).fdiv 25).fmod 5 = ((d / 25 % 5 : Nat) : Int) ∧ d % 5 ≤ 4 ∧ d / 5 % 5 ≤ 4 ∧ d / 25 % 5 ≤ 4 := by
  refine ⟨?_, ?_, ?_, by omega, by omega, by omega⟩
  · rw [Int.fmod_eq_emod_of_nonneg _ (by decide)]; omega
  · rw [Int.fmod_eq_emod_of_nonneg _ (by decide), Int.fdiv_eq_ediv_of_nonneg _ (by decide)]; omega
  · rw [Int.fmod_eq_emod_of_nonneg _ (by decide), Int.fdiv_eq_ediv_of_nonneg _ (by decide)]; omega
theorem pow_mask {prog : Program} {w : World} {A : Around} {E : Value → Shared → Prop} {s : Shared} {Q : Value → Shared → Prop} {k : Int} {n : Nat} {t u : Tok} (e : k = (n : Int)) (h4 : n ≤ 4) (h : Q (.int ((2 ^ n : Nat) : Int) s.toks) { s with toks := s.toks + 1 }) :
    wpAny (model prog w) A (binaryOp .Pow (.int 2 t) (.int k u)) Q E s := by
  subst e
  refine pow_int_small (Int.natCast_nonneg _) (by omega) (by decide) ?_
  rw [Int.toNat_natCast]
  rw [Int.natCast_pow] at h
  exact h
theorem or_facts : ∀ a : Nat, a ≤ 4 → ∀ b : Nat, b ≤ 4 → ∀ c : Nat, c ≤ 4 → Builtin.bitOr (Builtin.bitOr ((2 ^ a : Nat) : Int) ((2 ^ b : Nat) : Int)) ((2 ^ c : Nat) : Int) = ((2 ^ a ||| 2 ^ b ||| 2 ^ c : Nat) : Int) ∧ 2 ^ a ||| 2 ^ b ||| 2 ^ c < 32 := by decide +kernel
theorem ints_snoc' {vs : List Value} {ns : List Int} (h : IntsAre vs ns) {n n' : Int} (e : n = n') (t : Tok) : IntsAre (vs ++ [.int n t]) (ns ++ [n']) := e ▸ IntsAre.append h (.cons n t .nil)
noncomputable def masksI (ds : List Nat) : List Int := ds.map fun d => ((maskN d : Nat) : Int)
theorem mask_snoc {ys : List Value} {ds : List Nat} {i d : Nat} (hys : IntsAre ys (masksI (ds.take i))) (hd : ds[i]? = some d) (t : Tok) : IntsAre (ys ++ [.int (Builtin.bitOr (Builtin.bitOr ((2 ^ (d % 5) : Nat) : Int) ((2 ^ (d / 5 % 5) : Nat) : Int)) ((2 ^ (d / 25 % 5) : Nat) : Int)) t]) (masksI (ds.take (i + 1))) := by
  (refine hideP ?_; intro PP hPP); (obtain ⟨_, _, _, e4, e5, e6⟩ := mask_facts d) <;> (refine hPP ?_; clear hPP; clear PP)
  have e : masksI (ds.take (i + 1)) = masksI (ds.take i) ++ [((maskN d : Nat) : Int)] := by
    unfold masksI
    rw [List.take_add_one, hd, List.map_append]; rfl
  rw [e]
  refine ints_snoc' hys ?_ t
  unfold maskN
  exact (or_facts _ e4 _ e5 _ e6).1
noncomputable def atS (a : Nat) : Str := Txt.mul (Str.ofString "@") (a : Int)
theorem atS_cps : ∀ a : Nat, a ≤ 2 → (atS a).cps.toList = List.replicate a 64 ∧ (atS a).length ≤ 2 := by
  intro a ha
  obtain rfl | rfl | rfl : a = 0 ∨ a = 1 ∨ a = 2 := by omega
  all_goals decide +kernel
noncomputable def wordC (d : Nat) : Nat := maskN d + 128 * (d / 375 % 2)
noncomputable def wordN (d : Nat) : Str := atS (d / 125 % 3) ++ ⟨#[wordC d]⟩
theorem maskN_lt (d : Nat) : maskN d < 32 := by
  (refine hideP ?_; intro PP hPP); (obtain ⟨_, _, _, e4, e5, e6⟩ := mask_facts d) <;> (refine hPP ?_; clear hPP; clear PP)
  exact (or_facts _ e4 _ e5 _ e6).2
theorem word_facts (d : Nat) : ((d : Int).fdiv 125).fmod 3 = ((d / 125 % 3 : Nat) : Int) ∧ d / 125 % 3 ≤ 2 ∧ ((maskN d : Nat) : Int) + 128 * ((d : Int).fdiv 375).fmod 2 = ((wordC d : Nat) : Int) ∧ wordC d ≤ 200 := by
  have hm := maskN_lt d
  unfold wordC
  generalize maskN d = k at hm
  refine ⟨?_, by omega, ?_, by omega⟩
  · rw [Int.fmod_eq_emod_of_nonneg _ (by decide), Int.fdiv_eq_ediv_of_nonneg _ (by decide)]; omega
  · rw [Int.fmod_eq_emod_of_nonneg _ (by decide), Int.fdiv_eq_ediv_of_nonneg _ (by decide)]; omega
theorem word_len (d : Nat) : (atS (d / 125 % 3)).length + (⟨#[wordC d]⟩ : Str).length ≤ 3 := by
  have := (atS_cps (d / 125 % 3) (by omega)).2
  have h1 : (⟨#[wordC d]⟩ : Str).length = 1 := rfl
  omega
theorem mul_at {prog : Program} {w : World} {A : Around} {E : Value → Shared → Prop} {s : Shared} {Q : Value → Shared → Prop} {k : Int} {a : Nat} {t u : Tok} (e : k = (a : Int)) (ha : a ≤ 2) (h : ∀ t' k', Q (.str (atS a) t') { s with toks := k' }) :
    wpAny (model prog w) A (binaryOp .Mult (.str (Str.ofString "@") t) (.int k u)) Q E s := by
  subst e
  exact SB.mul (mulOk_of 16 1048576 (by decide) (by omega) (by omega) (by decide) (by decide)) h
theorem chr_at {prog : Program} {w : World} {A : Around} {E : Value → Shared → Prop} {s : Shared} {Q : Value → Shared → Prop} {k : Int} {c : Nat} {t : Tok} (e : k = (c : Int)) (hc : c ≤ 200) (h : Q (.str ⟨#[c]⟩ s.toks) { s with toks := s.toks + 1 }) :
    wpAny (model prog w) A (call (.builtin "chr") [.int k t]) Q E s := by
  subst e
  refine chr_of_range (Int.natCast_nonneg _) (by omega) ?_
  rw [Int.toNat_natCast]; exact h
theorem news_drop3 {g h : Heap} {L : Addr} {a b c : Addr × Obj} {r : List (Addr × Obj)} (N : News g L h (a :: b :: c :: r)) : News g L h (a :: b :: r) := fun q hq => by
  refine N q ?_
  simp only [List.mem_cons] at hq ⊢
  rcases hq with e | e | e
  · exact .inl e
  · exact .inr (.inl e)
  · exact .inr (.inr (.inr e))
section
theorem s2a {w : World} {p : Program} {loose : List Str} {mean : ExcName → Option Value} {mg mb : Str → Option Value} {dp un : Nat} {fs : Option (List Env)} {gd : Option (List Code)} {g : Heap} {L fa : Addr} {cd : Value} {s : Shared} {Q : Flow → Shared → Prop}
  (hdp : dp + 40 < recursionLimit) (hun : un + 400 < cLine) (X' : (hd.heap_39 w.params).In g) (T' : Top p loose mean mg mb g) (hC1 : CodeHd g 163 159) (hC2 : CodeHd g 111 107)
  (ret : ∀ h' tk', (∀ b o, g.get? b = some o → h'.get? b = some o) → GrownAt 159 h' → GrownAt 107 h' → Q (.ret (.bool true)) { s with heap := h', toks := tk' })
  {D : Addr} {d0 d1 : Nat} {t0 t1 : Tok} {n : Nat} (hd0 : d0 < 1000000) (hd1 : d1 < 1000000) (hLt : @LT.lt Nat _ 159 L ∧ @LT.lt Nat _ 107 L) (hDL : @LT.lt Nat _ (L + 1 + 1 + 1 + 1) D)
  {m : Str → Option Value} (F : Fr g L s.heap m) (hm : Knows m [("drawn", .ref D)])
  {c1 c2 c3 c4 : Obj} (hc1 : c1.data = .cell none) (hc2 : c2.data = .cell none) (hc3 : c3.data = .cell none) (hc4 : c4.data = .cell none)
  (N : News g L s.heap [(D, listOf #[.int (d0 : Int) t0, .int (d1 : Int) t1] n), (L + 1 + 1 + 1 + 1, c4), (L + 1 + 1 + 1, c3), (L + 1 + 1, c2), (L + 1, c1), (159, tabObj #[]), (107, tabObj #[])])
  (next : ∀ h' tk' m' (W M : Addr) (nW nM : Nat) (v0 v1 u0 u1 : Tok) (c1' : Obj), Fr g L h' m' → Knows m' [("words", .ref W)] → c1'.data = .cell (some (.ref M)) → (@LT.lt Nat _ M W ∧ @LT.lt Nat _ (L + 1 + 1 + 1 + 1) W) → (@Ne Nat (L + 1 + 1 + 1 + 1) M ∧ @Ne Nat (L + 1 + 1 + 1) M ∧ @Ne Nat (L + 1 + 1) M ∧ @Ne Nat (L + 1) M ∧ @Ne Nat 159 M ∧ @Ne Nat 107 M) →
    News g L h' [(W, listOf #[.str (wordN d0) v0, .str (wordN d1) v1] nW), (M, listOf #[.int ((maskN d0 : Nat) : Int) u0, .int ((maskN d1 : Nat) : Int) u1] nM), (L + 1 + 1 + 1 + 1, c4), (L + 1 + 1 + 1, c3), (L + 1 + 1, c2), (L + 1, c1'), (159, tabObj #[]), (107, tabObj #[])] →
    wpAny (model PySem.Challenge.rw_ty0032_01.row.prog w) ((arA dp un fs gd).deeper (lawEnv L fa cd)) (execs (lawR.body.drop 5) (lawEnv L fa cd)) Q (fun _ _ => False) { s with heap := h', toks := tk' }) :
  wpAny (model PySem.Challenge.rw_ty0032_01.row.prog w) ((arA dp un fs gd).deeper (lawEnv L fa cd)) (execs (lawR.body.drop 2) (lawEnv L fa cd)) Q (fun _ _ => False) s := by
    unfold lawEnv at next ⊢
    dsimp only [lawR, recOf, List.drop] at next ⊢
    replace F := fr_knows hm F
    clear hm
    (repeat' (first | (k_unfold; (try dsimp only)) | row_room_at HE | (k_end; wrow_close) | ((with_reducible show wpAny _ _ (execs (Stmt.Assign [Expr.Name (Str.ofString "lexer") _] _ _ :: _) _) _ _ _); k_here; refine halt ?_) | ((with_reducible show wpAny _ _ (binaryOp Operator.Add (Value.str _ _) (Value.str _ _)) _ _ _); (k_here; refine halt ?_)) | ((with_reducible show wpAny _ _ (exec (Stmt.For _ _ _ _ _) _) _ _ _); k_here; refine halt ?_) | ((with_reducible show wpAny _ _ (binaryOp Operator.Pow (Value.int _ _) (Value.int _ _)) _ _ _); (k_here; refine halt ?_)) | ((with_reducible show wpAny _ _ (call (Value.builtin "chr") _ _) _ _ _); (k_here; refine halt ?_)) | ((with_reducible show wpAny _ _ (binaryOp Operator.Mult (Value.str _ _) (Value.int _ _)) _ _ _); (k_here; refine halt ?_)) | ((with_reducible show PyProof.Rows.LCg.CompSrc _ _ _ _ _ _ _ _ _ _ _ _ _ _); (k_here; refine halt ?_)) | ((with_reducible show wpAny _ _ (eval (Expr.ListComp _ _ _ _) _) _ _ _); k_here; refine halt ?_) | ((with_reducible show wpAny _ _ (call (Value.ref _) _) _ _ _); k_here; refine halt ?_) | row_room_at HB | (dsimp only; (first | ((with_reducible show wpAny _ _ (execs (Stmt.Assign [Expr.Name (Str.ofString "lexer") _] _ _ :: _) _) _ _ _); k_here; refine halt ?_) | ((with_reducible show wpAny _ _ (binaryOp Operator.Add (Value.str _ _) (Value.str _ _)) _ _ _); (k_here; refine halt ?_)) | ((with_reducible show wpAny _ _ (exec (Stmt.For _ _ _ _ _) _) _ _ _); k_here; refine halt ?_) | ((with_reducible show wpAny _ _ (binaryOp Operator.Pow (Value.int _ _) (Value.int _ _)) _ _ _); (k_here; refine halt ?_)) | ((with_reducible show wpAny _ _ (call (Value.builtin "chr") _ _) _ _ _); (k_here; refine halt ?_)) | ((with_reducible show wpAny _ _ (binaryOp Operator.Mult (Value.str _ _) (Value.int _ _)) _ _ _); (k_here; refine halt ?_)) | ((with_reducible show PyProof.Rows.LCg.CompSrc _ _ _ _ _ _ _ _ _ _ _ _ _ _); (k_here; refine halt ?_)) | ((with_reducible show wpAny _ _ (eval (Expr.ListComp _ _ _ _) _) _ _ _); k_here; refine halt ?_) | ((with_reducible show wpAny _ _ (call (Value.ref _) _) _ _ _); k_here; refine halt ?_) | walk1 | row_room_at HE)) | (leave1; walk_say "STEP leave1"; try dsimp only)))
    refine go ?_
    refine LCg.ListComp_U (F₀ := by k_asm) (by with_unfolding_all rfl) (by decide) (by rfl) (by decide) (by rfl) ?_
    (repeat' (first | (k_unfold; (try dsimp only)) | row_room_at HE | (k_end; wrow_close) | ((with_reducible show wpAny _ _ (execs (Stmt.Assign [Expr.Name (Str.ofString "lexer") _] _ _ :: _) _) _ _ _); k_here; refine halt ?_) | ((with_reducible show wpAny _ _ (binaryOp Operator.Add (Value.str _ _) (Value.str _ _)) _ _ _); (k_here; refine halt ?_)) | ((with_reducible show wpAny _ _ (exec (Stmt.For _ _ _ _ _) _) _ _ _); k_here; refine halt ?_) | ((with_reducible show wpAny _ _ (binaryOp Operator.Pow (Value.int _ _) (Value.int _ _)) _ _ _); (k_here; refine halt ?_)) | ((with_reducible show wpAny _ _ (call (Value.builtin "chr") _ _) _ _ _); (k_here; refine halt ?_)) | ((with_reducible show wpAny _ _ (binaryOp Operator.Mult (Value.str _ _) (Value.int _ _)) _ _ _); (k_here; refine halt ?_)) | ((with_reducible show PyProof.Rows.LCg.CompSrc _ _ _ _ _ _ _ _ _ _ _ _ _ _); (k_here; refine halt ?_)) | ((with_reducible show wpAny _ _ (eval (Expr.ListComp _ _ _ _) _) _ _ _); k_here; refine halt ?_) | ((with_reducible show wpAny _ _ (call (Value.ref _) _) _ _ _); k_here; refine halt ?_) | row_room_at HB | (dsimp only; (first | ((with_reducible show wpAny _ _ (execs (Stmt.Assign [Expr.Name (Str.ofString "lexer") _] _ _ :: _) _) _ _ _); k_here; refine halt ?_) | ((with_reducible show wpAny _ _ (binaryOp Operator.Add (Value.str _ _) (Value.str _ _)) _ _ _); (k_here; refine halt ?_)) | ((with_reducible show wpAny _ _ (exec (Stmt.For _ _ _ _ _) _) _ _ _); k_here; refine halt ?_) | ((with_reducible show wpAny _ _ (binaryOp Operator.Pow (Value.int _ _) (Value.int _ _)) _ _ _); (k_here; refine halt ?_)) | ((with_reducible show wpAny _ _ (call (Value.builtin "chr") _ _) _ _ _); (k_here; refine halt ?_)) | ((with_reducible show wpAny _ _ (binaryOp Operator.Mult (Value.str _ _) (Value.int _ _)) _ _ _); (k_here; refine halt ?_)) | ((with_reducible show PyProof.Rows.LCg.CompSrc _ _ _ _ _ _ _ _ _ _ _ _ _ _); (k_here; refine halt ?_)) | ((with_reducible show wpAny _ _ (eval (Expr.ListComp _ _ _ _) _) _ _ _); k_here; refine halt ?_) | ((with_reducible show wpAny _ _ (call (Value.ref _) _) _ _ _); k_here; refine halt ?_) | walk1 | row_room_at HE)) | (leave1; walk_say "STEP leave1"; try dsimp only)))
    refine go ?_
    (with_reducible rename Fr _ _ _ _ => F1)
    (with_reducible rename News _ _ _ _ => N1)
    refine LCg.CompSrc.ledger rfl F1 N1 (.head _) (size_small (by exact Nat.le_of_ble_eq_true rfl)) ?_
    intro gg
    refine compRest_J (fun i ys news => IntsAre ys (masksI ([d0, d1].take i)) ∧ news = [(D, listOf #[.int (d0 : Int) t0, .int (d1 : Int) t1] n), (L + 1 + 1 + 1 + 1, c4), (L + 1 + 1 + 1, c3), (L + 1 + 1, c2), (L + 1, c1), (159, tabObj #[]), (107, tabObj #[])]) ?_ ?_ _ 0 [] _ (Nat.zero_add _) ⟨.nil, rfl⟩
    · clear F1 N1 next
      rintro i ys news v I oI C oC DD m₂ h tk E' hin ⟨hys, rfl⟩ hv hC hx F N off ne
      obtain ⟨d, hd, td, rfl⟩ : ∃ d : Nat, [d0, d1][i]? = some d ∧ ∃ td, v = .int (d : Int) td := by
        have hi2 : i < 2 := hin
        obtain rfl | rfl : i = 0 ∨ i = 1 := by omega
        · exact ⟨d0, rfl, t0, (Option.some.inj hv).symm⟩
        · exact ⟨d1, rfl, t1, (Option.some.inj hv).symm⟩
      (refine hideP ?_; intro PP hPP); (obtain ⟨e1, e2, e3, e4, e5, e6⟩ := mask_facts d) <;> (refine hPP ?_; clear hPP; clear PP)
      (repeat' (first | (k_unfold; (try dsimp only)) | row_room_at HE | (k_end; wrow_close) | ((with_reducible show wpAny _ _ (execs (Stmt.Assign [Expr.Name (Str.ofString "lexer") _] _ _ :: _) _) _ _ _); k_here; refine halt ?_) | ((with_reducible show wpAny _ _ (binaryOp Operator.Add (Value.str _ _) (Value.str _ _)) _ _ _); (k_here; refine halt ?_)) | ((with_reducible show wpAny _ _ (exec (Stmt.For _ _ _ _ _) _) _ _ _); k_here; refine halt ?_) | ((with_reducible show wpAny _ _ (binaryOp Operator.Pow (Value.int _ _) (Value.int _ _)) _ _ _); (k_here; refine halt ?_)) | ((with_reducible show wpAny _ _ (call (Value.builtin "chr") _ _) _ _ _); (k_here; refine halt ?_)) | ((with_reducible show wpAny _ _ (binaryOp Operator.Mult (Value.str _ _) (Value.int _ _)) _ _ _); (k_here; refine halt ?_)) | ((with_reducible show PyProof.Rows.LCg.CompSrc _ _ _ _ _ _ _ _ _ _ _ _ _ _); (k_here; refine halt ?_)) | ((with_reducible show wpAny _ _ (eval (Expr.ListComp _ _ _ _) _) _ _ _); k_here; refine halt ?_) | ((with_reducible show wpAny _ _ (call (Value.ref _) _) _ _ _); k_here; refine halt ?_) | row_room_at HB | (dsimp only; (first | ((with_reducible show wpAny _ _ (execs (Stmt.Assign [Expr.Name (Str.ofString "lexer") _] _ _ :: _) _) _ _ _); k_here; refine halt ?_) | ((with_reducible show wpAny _ _ (binaryOp Operator.Add (Value.str _ _) (Value.str _ _)) _ _ _); (k_here; refine halt ?_)) | ((with_reducible show wpAny _ _ (exec (Stmt.For _ _ _ _ _) _) _ _ _); k_here; refine halt ?_) | ((with_reducible show wpAny _ _ (binaryOp Operator.Pow (Value.int _ _) (Value.int _ _)) _ _ _); (k_here; refine halt ?_)) | ((with_reducible show wpAny _ _ (call (Value.builtin "chr") _ _) _ _ _); (k_here; refine halt ?_)) | ((with_reducible show wpAny _ _ (binaryOp Operator.Mult (Value.str _ _) (Value.int _ _)) _ _ _); (k_here; refine halt ?_)) | ((with_reducible show PyProof.Rows.LCg.CompSrc _ _ _ _ _ _ _ _ _ _ _ _ _ _); (k_here; refine halt ?_)) | ((with_reducible show wpAny _ _ (eval (Expr.ListComp _ _ _ _) _) _ _ _); k_here; refine halt ?_) | ((with_reducible show wpAny _ _ (call (Value.ref _) _) _ _ _); k_here; refine halt ?_) | walk1 | row_room_at HE)) | (leave1; walk_say "STEP leave1"; try dsimp only)))
      refine go ?_
      refine pow_mask e1 e4 ?_
      (repeat' (first | (k_unfold; (try dsimp only)) | row_room_at HE | (k_end; wrow_close) | ((with_reducible show wpAny _ _ (execs (Stmt.Assign [Expr.Name (Str.ofString "lexer") _] _ _ :: _) _) _ _ _); k_here; refine halt ?_) | ((with_reducible show wpAny _ _ (binaryOp Operator.Add (Value.str _ _) (Value.str _ _)) _ _ _); (k_here; refine halt ?_)) | ((with_reducible show wpAny _ _ (exec (Stmt.For _ _ _ _ _) _) _ _ _); k_here; refine halt ?_) | ((with_reducible show wpAny _ _ (binaryOp Operator.Pow (Value.int _ _) (Value.int _ _)) _ _ _); (k_here; refine halt ?_)) | ((with_reducible show wpAny _ _ (call (Value.builtin "chr") _ _) _ _ _); (k_here; refine halt ?_)) | ((with_reducible show wpAny _ _ (binaryOp Operator.Mult (Value.str _ _) (Value.int _ _)) _ _ _); (k_here; refine halt ?_)) | ((with_reducible show PyProof.Rows.LCg.CompSrc _ _ _ _ _ _ _ _ _ _ _ _ _ _); (k_here; refine halt ?_)) | ((with_reducible show wpAny _ _ (eval (Expr.ListComp _ _ _ _) _) _ _ _); k_here; refine halt ?_) | ((with_reducible show wpAny _ _ (call (Value.ref _) _) _ _ _); k_here; refine halt ?_) | row_room_at HB | (dsimp only; (first | ((with_reducible show wpAny _ _ (execs (Stmt.Assign [Expr.Name (Str.ofString "lexer") _] _ _ :: _) _) _ _ _); k_here; refine halt ?_) | ((with_reducible show wpAny _ _ (binaryOp Operator.Add (Value.str _ _) (Value.str _ _)) _ _ _); (k_here; refine halt ?_)) | ((with_reducible show wpAny _ _ (exec (Stmt.For _ _ _ _ _) _) _ _ _); k_here; refine halt ?_) | ((with_reducible show wpAny _ _ (binaryOp Operator.Pow (Value.int _ _) (Value.int _ _)) _ _ _); (k_here; refine halt ?_)) | ((with_reducible show wpAny _ _ (call (Value.builtin "chr") _ _) _ _ _); (k_here; refine halt ?_)) | ((with_reducible show wpAny _ _ (binaryOp Operator.Mult (Value.str _ _) (Value.int _ _)) _ _ _); (k_here; refine halt ?_)) | ((with_reducible show PyProof.Rows.LCg.CompSrc _ _ _ _ _ _ _ _ _ _ _ _ _ _); (k_here; refine halt ?_)) | ((with_reducible show wpAny _ _ (eval (Expr.ListComp _ _ _ _) _) _ _ _); k_here; refine halt ?_) | ((with_reducible show wpAny _ _ (call (Value.ref _) _) _ _ _); k_here; refine halt ?_) | walk1 | row_room_at HE)) | (leave1; walk_say "STEP leave1"; try dsimp only)))
      refine go ?_
      refine pow_mask e2 e5 ?_
      (repeat' (first | (k_unfold; (try dsimp only)) | row_room_at HE | (k_end; wrow_close) | ((with_reducible show wpAny _ _ (execs (Stmt.Assign [Expr.Name (Str.ofString "lexer") _] _ _ :: _) _) _ _ _); k_here; refine halt ?_) | ((with_reducible show wpAny _ _ (binaryOp Operator.Add (Value.str _ _) (Value.str _ _)) _ _ _); (k_here; refine halt ?_)) | ((with_reducible show wpAny _ _ (exec (Stmt.For _ _ _ _ _) _) _ _ _); k_here; refine halt ?_) | ((with_reducible show wpAny _ _ (binaryOp Operator.Pow (Value.int _ _) (Value.int _ _)) _ _ _); (k_here; refine halt ?_)) | ((with_reducible show wpAny _ _ (call (Value.builtin "chr") _ _) _ _ _); (k_here; refine halt ?_)) | ((with_reducible show wpAny _ _ (binaryOp Operator.Mult (Value.str _ _) (Value.int _ _)) _ _ _); (k_here; refine halt ?_)) | ((with_reducible show PyProof.Rows.LCg.CompSrc _ _ _ _ _ _ _ _ _ _ _ _ _ _); (k_here; refine halt ?_)) | ((with_reducible show wpAny _ _ (eval (Expr.ListComp _ _ _ _) _) _ _ _); k_here; refine halt ?_) | ((with_reducible show wpAny _ _ (call (Value.ref _) _) _ _ _); k_here; refine halt ?_) | row_room_at HB | (dsimp only; (first | ((with_reducible show wpAny _ _ (execs (Stmt.Assign [Expr.Name (Str.ofString "lexer") _] _ _ :: _) _) _ _ _); k_here; refine halt ?_) | ((with_reducible show wpAny _ _ (binaryOp Operator.Add (Value.str _ _) (Value.str _ _)) _ _ _); (k_here; refine halt ?_)) | ((with_reducible show wpAny _ _ (exec (Stmt.For _ _ _ _ _) _) _ _ _); k_here; refine halt ?_) | ((with_reducible show wpAny _ _ (binaryOp Operator.Pow (Value.int _ _) (Value.int _ _)) _ _ _); (k_here; refine halt ?_)) | ((with_reducible show wpAny _ _ (call (Value.builtin "chr") _ _) _ _ _); (k_here; refine halt ?_)) | ((with_reducible show wpAny _ _ (binaryOp Operator.Mult (Value.str _ _) (Value.int _ _)) _ _ _); (k_here; refine halt ?_)) | ((with_reducible show PyProof.Rows.LCg.CompSrc _ _ _ _ _ _ _ _ _ _ _ _ _ _); (k_here; refine halt ?_)) | ((with_reducible show wpAny _ _ (eval (Expr.ListComp _ _ _ _) _) _ _ _); k_here; refine halt ?_) | ((with_reducible show wpAny _ _ (call (Value.ref _) _) _ _ _); k_here; refine halt ?_) | walk1 | row_room_at HE)) | (leave1; walk_say "STEP leave1"; try dsimp only)))
      refine go ?_
      refine pow_mask e3 e6 ?_
      (repeat' (first | (k_unfold; (try dsimp only)) | row_room_at HE | (k_end; wrow_close) | ((with_reducible show wpAny _ _ (execs (Stmt.Assign [Expr.Name (Str.ofString "lexer") _] _ _ :: _) _) _ _ _); k_here; refine halt ?_) | ((with_reducible show wpAny _ _ (binaryOp Operator.Add (Value.str _ _) (Value.str _ _)) _ _ _); (k_here; refine halt ?_)) | ((with_reducible show wpAny _ _ (exec (Stmt.For _ _ _ _ _) _) _ _ _); k_here; refine halt ?_) | ((with_reducible show wpAny _ _ (binaryOp Operator.Pow (Value.int _ _) (Value.int _ _)) _ _ _); (k_here; refine halt ?_)) | ((with_reducible show wpAny _ _ (call (Value.builtin "chr") _ _) _ _ _); (k_here; refine halt ?_)) | ((with_reducible show wpAny _ _ (binaryOp Operator.Mult (Value.str _ _) (Value.int _ _)) _ _ _); (k_here; refine halt ?_)) | ((with_reducible show PyProof.Rows.LCg.CompSrc _ _ _ _ _ _ _ _ _ _ _ _ _ _); (k_here; refine halt ?_)) | ((with_reducible show wpAny _ _ (eval (Expr.ListComp _ _ _ _) _) _ _ _); k_here; refine halt ?_) | ((with_reducible show wpAny _ _ (call (Value.ref _) _) _ _ _); k_here; refine halt ?_) | row_room_at HB | (dsimp only; (first | ((with_reducible show wpAny _ _ (execs (Stmt.Assign [Expr.Name (Str.ofString "lexer") _] _ _ :: _) _) _ _ _); k_here; refine halt ?_) | ((with_reducible show wpAny _ _ (binaryOp Operator.Add (Value.str _ _) (Value.str _ _)) _ _ _); (k_here; refine halt ?_)) | ((with_reducible show wpAny _ _ (exec (Stmt.For _ _ _ _ _) _) _ _ _); k_here; refine halt ?_) | ((with_reducible show wpAny _ _ (binaryOp Operator.Pow (Value.int _ _) (Value.int _ _)) _ _ _); (k_here; refine halt ?_)) | ((with_reducible show wpAny _ _ (call (Value.builtin "chr") _ _) _ _ _); (k_here; refine halt ?_)) | ((with_reducible show wpAny _ _ (binaryOp Operator.Mult (Value.str _ _) (Value.int _ _)) _ _ _); (k_here; refine halt ?_)) | ((with_reducible show PyProof.Rows.LCg.CompSrc _ _ _ _ _ _ _ _ _ _ _ _ _ _); (k_here; refine halt ?_)) | ((with_reducible show wpAny _ _ (eval (Expr.ListComp _ _ _ _) _) _ _ _); k_here; refine halt ?_) | ((with_reducible show wpAny _ _ (call (Value.ref _) _) _ _ _); k_here; refine halt ?_) | walk1 | row_room_at HE)) | (leave1; walk_say "STEP leave1"; try dsimp only)))
      refine LCg.CompEnd.intro F N _ (fun _ hp => hp) off (.inr ⟨_, .head _, rfl, _, rfl⟩) ⟨?_, rfl⟩
      exact mask_snoc hys hd _
    · rintro ys news ⟨hys, rfl⟩ DM h3 tk3 F3 N3 off
      simp only [LCg.Off1, and_true] at off
      obtain ⟨hLt1, hLt2⟩ := hLt
      clear F1 N1
      have hys0 := hys
      clear hys
      (refine hideP ?_; intro PP hPP); (obtain ⟨u0, _, rfl, hys1⟩ := ints_cons hys0) <;> (refine hPP ?_; clear hPP; clear PP)
      clear hys0
      (refine hideP ?_; intro PP hPP); (obtain ⟨u1, _, rfl, hys2⟩ := ints_cons hys1) <;> (refine hPP ?_; clear hPP; clear PP)
      clear hys1
      obtain rfl := ints_nil hys2
      clear hys2
      have N4 : News g L h3 [(DM, listOf #[.int ((maskN d0 : Nat) : Int) u0, .int ((maskN d1 : Nat) : Int) u1] 2), (D, listOf #[.int (d0 : Int) t0, .int (d1 : Int) t1] n), (L + 1 + 1 + 1 + 1, c4), (L + 1 + 1 + 1, c3), (L + 1 + 1, c2), (L + 1, c1), (159, tabObj #[]), (107, tabObj #[])] := N3
      clear N3
      (repeat' (first | (k_unfold; (try dsimp only)) | row_room_at HE | (k_end; wrow_close) | ((with_reducible show wpAny _ _ (execs (Stmt.Assign [Expr.Name (Str.ofString "lexer") _] _ _ :: _) _) _ _ _); k_here; refine halt ?_) | ((with_reducible show wpAny _ _ (binaryOp Operator.Add (Value.str _ _) (Value.str _ _)) _ _ _); (k_here; refine halt ?_)) | ((with_reducible show wpAny _ _ (exec (Stmt.For _ _ _ _ _) _) _ _ _); k_here; refine halt ?_) | ((with_reducible show wpAny _ _ (binaryOp Operator.Pow (Value.int _ _) (Value.int _ _)) _ _ _); (k_here; refine halt ?_)) | ((with_reducible show wpAny _ _ (call (Value.builtin "chr") _ _) _ _ _); (k_here; refine halt ?_)) | ((with_reducible show wpAny _ _ (binaryOp Operator.Mult (Value.str _ _) (Value.int _ _)) _ _ _); (k_here; refine halt ?_)) | ((with_reducible show PyProof.Rows.LCg.CompSrc _ _ _ _ _ _ _ _ _ _ _ _ _ _); (k_here; refine halt ?_)) | ((with_reducible show wpAny _ _ (eval (Expr.ListComp _ _ _ _) _) _ _ _); k_here; refine halt ?_) | ((with_reducible show wpAny _ _ (call (Value.ref _) _) _ _ _); k_here; refine halt ?_) | row_room_at HB | (dsimp only; (first | ((with_reducible show wpAny _ _ (execs (Stmt.Assign [Expr.Name (Str.ofString "lexer") _] _ _ :: _) _) _ _ _); k_here; refine halt ?_) | ((with_reducible show wpAny _ _ (binaryOp Operator.Add (Value.str _ _) (Value.str _ _)) _ _ _); (k_here; refine halt ?_)) | ((with_reducible show wpAny _ _ (exec (Stmt.For _ _ _ _ _) _) _ _ _); k_here; refine halt ?_) | ((with_reducible show wpAny _ _ (binaryOp Operator.Pow (Value.int _ _) (Value.int _ _)) _ _ _); (k_here; refine halt ?_)) | ((with_reducible show wpAny _ _ (call (Value.builtin "chr") _ _) _ _ _); (k_here; refine halt ?_)) | ((with_reducible show wpAny _ _ (binaryOp Operator.Mult (Value.str _ _) (Value.int _ _)) _ _ _); (k_here; refine halt ?_)) | ((with_reducible show PyProof.Rows.LCg.CompSrc _ _ _ _ _ _ _ _ _ _ _ _ _ _); (k_here; refine halt ?_)) | ((with_reducible show wpAny _ _ (eval (Expr.ListComp _ _ _ _) _) _ _ _); k_here; refine halt ?_) | ((with_reducible show wpAny _ _ (call (Value.ref _) _) _ _ _); k_here; refine halt ?_) | walk1 | row_room_at HE)) | (leave1; walk_say "STEP leave1"; try dsimp only)))
      refine go ?_
      (with_reducible rename Fr _ _ _ _ => F5)
      (with_unfolding_all refine' For_turns F5 ?_; k_whole)
      (repeat' (first | (k_unfold; (try dsimp only)) | row_room_at HE | (k_end; wrow_close) | ((with_reducible show wpAny _ _ (execs (Stmt.Assign [Expr.Name (Str.ofString "lexer") _] _ _ :: _) _) _ _ _); k_here; refine halt ?_) | ((with_reducible show wpAny _ _ (binaryOp Operator.Add (Value.str _ _) (Value.str _ _)) _ _ _); (k_here; refine halt ?_)) | ((with_reducible show wpAny _ _ (exec (Stmt.For _ _ _ _ _) _) _ _ _); k_here; refine halt ?_) | ((with_reducible show wpAny _ _ (binaryOp Operator.Pow (Value.int _ _) (Value.int _ _)) _ _ _); (k_here; refine halt ?_)) | ((with_reducible show wpAny _ _ (call (Value.builtin "chr") _ _) _ _ _); (k_here; refine halt ?_)) | ((with_reducible show wpAny _ _ (binaryOp Operator.Mult (Value.str _ _) (Value.int _ _)) _ _ _); (k_here; refine halt ?_)) | ((with_reducible show PyProof.Rows.LCg.CompSrc _ _ _ _ _ _ _ _ _ _ _ _ _ _); (k_here; refine halt ?_)) | ((with_reducible show wpAny _ _ (eval (Expr.ListComp _ _ _ _) _) _ _ _); k_here; refine halt ?_) | ((with_reducible show wpAny _ _ (call (Value.ref _) _) _ _ _); k_here; refine halt ?_) | row_room_at HB | (dsimp only; (first | ((with_reducible show wpAny _ _ (execs (Stmt.Assign [Expr.Name (Str.ofString "lexer") _] _ _ :: _) _) _ _ _); k_here; refine halt ?_) | ((with_reducible show wpAny _ _ (binaryOp Operator.Add (Value.str _ _) (Value.str _ _)) _ _ _); (k_here; refine halt ?_)) | ((with_reducible show wpAny _ _ (exec (Stmt.For _ _ _ _ _) _) _ _ _); k_here; refine halt ?_) | ((with_reducible show wpAny _ _ (binaryOp Operator.Pow (Value.int _ _) (Value.int _ _)) _ _ _); (k_here; refine halt ?_)) | ((with_reducible show wpAny _ _ (call (Value.builtin "chr") _ _) _ _ _); (k_here; refine halt ?_)) | ((with_reducible show wpAny _ _ (binaryOp Operator.Mult (Value.str _ _) (Value.int _ _)) _ _ _); (k_here; refine halt ?_)) | ((with_reducible show PyProof.Rows.LCg.CompSrc _ _ _ _ _ _ _ _ _ _ _ _ _ _); (k_here; refine halt ?_)) | ((with_reducible show wpAny _ _ (eval (Expr.ListComp _ _ _ _) _) _ _ _); k_here; refine halt ?_) | ((with_reducible show wpAny _ _ (call (Value.ref _) _) _ _ _); k_here; refine halt ?_) | walk1 | row_room_at HE)) | (leave1; walk_say "STEP leave1"; try dsimp only)))
      refine go ?_
      refine mul_at (word_facts d0).1 (word_facts d0).2.1 ?_
      intro tmd0 kmd0
      (repeat' (first | (k_unfold; (try dsimp only)) | row_room_at HE | (k_end; wrow_close) | ((with_reducible show wpAny _ _ (execs (Stmt.Assign [Expr.Name (Str.ofString "lexer") _] _ _ :: _) _) _ _ _); k_here; refine halt ?_) | ((with_reducible show wpAny _ _ (binaryOp Operator.Add (Value.str _ _) (Value.str _ _)) _ _ _); (k_here; refine halt ?_)) | ((with_reducible show wpAny _ _ (exec (Stmt.For _ _ _ _ _) _) _ _ _); k_here; refine halt ?_) | ((with_reducible show wpAny _ _ (binaryOp Operator.Pow (Value.int _ _) (Value.int _ _)) _ _ _); (k_here; refine halt ?_)) | ((with_reducible show wpAny _ _ (call (Value.builtin "chr") _ _) _ _ _); (k_here; refine halt ?_)) | ((with_reducible show wpAny _ _ (binaryOp Operator.Mult (Value.str _ _) (Value.int _ _)) _ _ _); (k_here; refine halt ?_)) | ((with_reducible show PyProof.Rows.LCg.CompSrc _ _ _ _ _ _ _ _ _ _ _ _ _ _); (k_here; refine halt ?_)) | ((with_reducible show wpAny _ _ (eval (Expr.ListComp _ _ _ _) _) _ _ _); k_here; refine halt ?_) | ((with_reducible show wpAny _ _ (call (Value.ref _) _) _ _ _); k_here; refine halt ?_) | row_room_at HB | (dsimp only; (first | ((with_reducible show wpAny _ _ (execs (Stmt.Assign [Expr.Name (Str.ofString "lexer") _] _ _ :: _) _) _ _ _); k_here; refine halt ?_) | ((with_reducible show wpAny _ _ (binaryOp Operator.Add (Value.str _ _) (Value.str _ _)) _ _ _); (k_here; refine halt ?_)) | ((with_reducible show wpAny _ _ (exec (Stmt.For _ _ _ _ _) _) _ _ _); k_here; refine halt ?_) | ((with_reducible show wpAny _ _ (binaryOp Operator.Pow (Value.int _ _) (Value.int _ _)) _ _ _); (k_here; refine halt ?_)) | ((with_reducible show wpAny _ _ (call (Value.builtin "chr") _ _) _ _ _); (k_here; refine halt ?_)) | ((with_reducible show wpAny _ _ (binaryOp Operator.Mult (Value.str _ _) (Value.int _ _)) _ _ _); (k_here; refine halt ?_)) | ((with_reducible show PyProof.Rows.LCg.CompSrc _ _ _ _ _ _ _ _ _ _ _ _ _ _); (k_here; refine halt ?_)) | ((with_reducible show wpAny _ _ (eval (Expr.ListComp _ _ _ _) _) _ _ _); k_here; refine halt ?_) | ((with_reducible show wpAny _ _ (call (Value.ref _) _) _ _ _); k_here; refine halt ?_) | walk1 | row_room_at HE)) | (leave1; walk_say "STEP leave1"; try dsimp only)))
      refine go ?_
      refine chr_at (word_facts d0).2.2.1 (word_facts d0).2.2.2 ?_
      (repeat' (first | (k_unfold; (try dsimp only)) | row_room_at HE | (k_end; wrow_close) | ((with_reducible show wpAny _ _ (execs (Stmt.Assign [Expr.Name (Str.ofString "lexer") _] _ _ :: _) _) _ _ _); k_here; refine halt ?_) | ((with_reducible show wpAny _ _ (binaryOp Operator.Add (Value.str _ _) (Value.str _ _)) _ _ _); (k_here; refine halt ?_)) | ((with_reducible show wpAny _ _ (exec (Stmt.For _ _ _ _ _) _) _ _ _); k_here; refine halt ?_) | ((with_reducible show wpAny _ _ (binaryOp Operator.Pow (Value.int _ _) (Value.int _ _)) _ _ _); (k_here; refine halt ?_)) | ((with_reducible show wpAny _ _ (call (Value.builtin "chr") _ _) _ _ _); (k_here; refine halt ?_)) | ((with_reducible show wpAny _ _ (binaryOp Operator.Mult (Value.str _ _) (Value.int _ _)) _ _ _); (k_here; refine halt ?_)) | ((with_reducible show PyProof.Rows.LCg.CompSrc _ _ _ _ _ _ _ _ _ _ _ _ _ _); (k_here; refine halt ?_)) | ((with_reducible show wpAny _ _ (eval (Expr.ListComp _ _ _ _) _) _ _ _); k_here; refine halt ?_) | ((with_reducible show wpAny _ _ (call (Value.ref _) _) _ _ _); k_here; refine halt ?_) | row_room_at HB | (dsimp only; (first | ((with_reducible show wpAny _ _ (execs (Stmt.Assign [Expr.Name (Str.ofString "lexer") _] _ _ :: _) _) _ _ _); k_here; refine halt ?_) | ((with_reducible show wpAny _ _ (binaryOp Operator.Add (Value.str _ _) (Value.str _ _)) _ _ _); (k_here; refine halt ?_)) | ((with_reducible show wpAny _ _ (exec (Stmt.For _ _ _ _ _) _) _ _ _); k_here; refine halt ?_) | ((with_reducible show wpAny _ _ (binaryOp Operator.Pow (Value.int _ _) (Value.int _ _)) _ _ _); (k_here; refine halt ?_)) | ((with_reducible show wpAny _ _ (call (Value.builtin "chr") _ _) _ _ _); (k_here; refine halt ?_)) | ((with_reducible show wpAny _ _ (binaryOp Operator.Mult (Value.str _ _) (Value.int _ _)) _ _ _); (k_here; refine halt ?_)) | ((with_reducible show PyProof.Rows.LCg.CompSrc _ _ _ _ _ _ _ _ _ _ _ _ _ _); (k_here; refine halt ?_)) | ((with_reducible show wpAny _ _ (eval (Expr.ListComp _ _ _ _) _) _ _ _); k_here; refine halt ?_) | ((with_reducible show wpAny _ _ (call (Value.ref _) _) _ _ _); k_here; refine halt ?_) | walk1 | row_room_at HE)) | (leave1; walk_say "STEP leave1"; try dsimp only)))
      refine go ?_
      refine KOpn.add (Nat.le_trans (word_len d0) (by decide)) ?_
      intro twd0 kwd0 _
      (repeat' (first | (k_unfold; (try dsimp only)) | row_room_at HE | (k_end; wrow_close) | ((with_reducible show wpAny _ _ (execs (Stmt.Assign [Expr.Name (Str.ofString "lexer") _] _ _ :: _) _) _ _ _); k_here; refine halt ?_) | ((with_reducible show wpAny _ _ (binaryOp Operator.Add (Value.str _ _) (Value.str _ _)) _ _ _); (k_here; refine halt ?_)) | ((with_reducible show wpAny _ _ (exec (Stmt.For _ _ _ _ _) _) _ _ _); k_here; refine halt ?_) | ((with_reducible show wpAny _ _ (binaryOp Operator.Pow (Value.int _ _) (Value.int _ _)) _ _ _); (k_here; refine halt ?_)) | ((with_reducible show wpAny _ _ (call (Value.builtin "chr") _ _) _ _ _); (k_here; refine halt ?_)) | ((with_reducible show wpAny _ _ (binaryOp Operator.Mult (Value.str _ _) (Value.int _ _)) _ _ _); (k_here; refine halt ?_)) | ((with_reducible show PyProof.Rows.LCg.CompSrc _ _ _ _ _ _ _ _ _ _ _ _ _ _); (k_here; refine halt ?_)) | ((with_reducible show wpAny _ _ (eval (Expr.ListComp _ _ _ _) _) _ _ _); k_here; refine halt ?_) | ((with_reducible show wpAny _ _ (call (Value.ref _) _) _ _ _); k_here; refine halt ?_) | row_room_at HB | (dsimp only; (first | ((with_reducible show wpAny _ _ (execs (Stmt.Assign [Expr.Name (Str.ofString "lexer") _] _ _ :: _) _) _ _ _); k_here; refine halt ?_) | ((with_reducible show wpAny _ _ (binaryOp Operator.Add (Value.str _ _) (Value.str _ _)) _ _ _); (k_here; refine halt ?_)) | ((with_reducible show wpAny _ _ (exec (Stmt.For _ _ _ _ _) _) _ _ _); k_here; refine halt ?_) | ((with_reducible show wpAny _ _ (binaryOp Operator.Pow (Value.int _ _) (Value.int _ _)) _ _ _); (k_here; refine halt ?_)) | ((with_reducible show wpAny _ _ (call (Value.builtin "chr") _ _) _ _ _); (k_here; refine halt ?_)) | ((with_reducible show wpAny _ _ (binaryOp Operator.Mult (Value.str _ _) (Value.int _ _)) _ _ _); (k_here; refine halt ?_)) | ((with_reducible show PyProof.Rows.LCg.CompSrc _ _ _ _ _ _ _ _ _ _ _ _ _ _); (k_here; refine halt ?_)) | ((with_reducible show wpAny _ _ (eval (Expr.ListComp _ _ _ _) _) _ _ _); k_here; refine halt ?_) | ((with_reducible show wpAny _ _ (call (Value.ref _) _) _ _ _); k_here; refine halt ?_) | walk1 | row_room_at HE)) | (leave1; walk_say "STEP leave1"; try dsimp only)))
      refine go ?_
      refine mul_at (word_facts d1).1 (word_facts d1).2.1 ?_
      intro tmd1 kmd1
      (repeat' (first | (k_unfold; (try dsimp only)) | row_room_at HE | (k_end; wrow_close) | ((with_reducible show wpAny _ _ (execs (Stmt.Assign [Expr.Name (Str.ofString "lexer") _] _ _ :: _) _) _ _ _); k_here; refine halt ?_) | ((with_reducible show wpAny _ _ (binaryOp Operator.Add (Value.str _ _) (Value.str _ _)) _ _ _); (k_here; refine halt ?_)) | ((with_reducible show wpAny _ _ (exec (Stmt.For _ _ _ _ _) _) _ _ _); k_here; refine halt ?_) | ((with_reducible show wpAny _ _ (binaryOp Operator.Pow (Value.int _ _) (Value.int _ _)) _ _ _); (k_here; refine halt ?_)) | ((with_reducible show wpAny _ _ (call (Value.builtin "chr") _ _) _ _ _); (k_here; refine halt ?_)) | ((with_reducible show wpAny _ _ (binaryOp Operator.Mult (Value.str _ _) (Value.int _ _)) _ _ _); (k_here; refine halt ?_)) | ((with_reducible show PyProof.Rows.LCg.CompSrc _ _ _ _ _ _ _ _ _ _ _ _ _ _); (k_here; refine halt ?_)) | ((with_reducible show wpAny _ _ (eval (Expr.ListComp _ _ _ _) _) _ _ _); k_here; refine halt ?_) | ((with_reducible show wpAny _ _ (call (Value.ref _) _) _ _ _); k_here; refine halt ?_) | row_room_at HB | (dsimp only; (first | ((with_reducible show wpAny _ _ (execs (Stmt.Assign [Expr.Name (Str.ofString "lexer") _] _ _ :: _) _) _ _ _); k_here; refine halt ?_) | ((with_reducible show wpAny _ _ (binaryOp Operator.Add (Value.str _ _) (Value.str _ _)) _ _ _); (k_here; refine halt ?_)) | ((with_reducible show wpAny _ _ (exec (Stmt.For _ _ _ _ _) _) _ _ _); k_here; refine halt ?_) | ((with_reducible show wpAny _ _ (binaryOp Operator.Pow (Value.int _ _) (Value.int _ _)) _ _ _); (k_here; refine halt ?_)) | ((with_reducible show wpAny _ _ (call (Value.builtin "chr") _ _) _ _ _); (k_here; refine halt ?_)) | ((with_reducible show wpAny _ _ (binaryOp Operator.Mult (Value.str _ _) (Value.int _ _)) _ _ _); (k_here; refine halt ?_)) | ((with_reducible show PyProof.Rows.LCg.CompSrc _ _ _ _ _ _ _ _ _ _ _ _ _ _); (k_here; refine halt ?_)) | ((with_reducible show wpAny _ _ (eval (Expr.ListComp _ _ _ _) _) _ _ _); k_here; refine halt ?_) | ((with_reducible show wpAny _ _ (call (Value.ref _) _) _ _ _); k_here; refine halt ?_) | walk1 | row_room_at HE)) | (leave1; walk_say "STEP leave1"; try dsimp only)))
      refine go ?_
      refine chr_at (word_facts d1).2.2.1 (word_facts d1).2.2.2 ?_
      (repeat' (first | (k_unfold; (try dsimp only)) | row_room_at HE | (k_end; wrow_close) | ((with_reducible show wpAny _ _ (execs (Stmt.Assign [Expr.Name (Str.ofString "lexer") _] _ _ :: _) _) _ _ _); k_here; refine halt ?_) | ((with_reducible show wpAny _ _ (binaryOp Operator.Add (Value.str _ _) (Value.str _ _)) _ _ _); (k_here; refine halt ?_)) | ((with_reducible show wpAny _ _ (exec (Stmt.For _ _ _ _ _) _) _ _ _); k_here; refine halt ?_) | ((with_reducible show wpAny _ _ (binaryOp Operator.Pow (Value.int _ _) (Value.int _ _)) _ _ _); (k_here; refine halt ?_)) | ((with_reducible show wpAny _ _ (call (Value.builtin "chr") _ _) _ _ _); (k_here; refine halt ?_)) | ((with_reducible show wpAny _ _ (binaryOp Operator.Mult (Value.str _ _) (Value.int _ _)) _ _ _); (k_here; refine halt ?_)) | ((with_reducible show PyProof.Rows.LCg.CompSrc _ _ _ _ _ _ _ _ _ _ _ _ _ _); (k_here; refine halt ?_)) | ((with_reducible show wpAny _ _ (eval (Expr.ListComp _ _ _ _) _) _ _ _); k_here; refine halt ?_) | ((with_reducible show wpAny _ _ (call (Value.ref _) _) _ _ _); k_here; refine halt ?_) | row_room_at HB | (dsimp only; (first | ((with_reducible show wpAny _ _ (execs (Stmt.Assign [Expr.Name (Str.ofString "lexer") _] _ _ :: _) _) _ _ _); k_here; refine halt ?_) | ((with_reducible show wpAny _ _ (binaryOp Operator.Add (Value.str _ _) (Value.str _ _)) _ _ _); (k_here; refine halt ?_)) | ((with_reducible show wpAny _ _ (exec (Stmt.For _ _ _ _ _) _) _ _ _); k_here; refine halt ?_) | ((with_reducible show wpAny _ _ (binaryOp Operator.Pow (Value.int _ _) (Value.int _ _)) _ _ _); (k_here; refine halt ?_)) | ((with_reducible show wpAny _ _ (call (Value.builtin "chr") _ _) _ _ _); (k_here; refine halt ?_)) | ((with_reducible show wpAny _ _ (binaryOp Operator.Mult (Value.str _ _) (Value.int _ _)) _ _ _); (k_here; refine halt ?_)) | ((with_reducible show PyProof.Rows.LCg.CompSrc _ _ _ _ _ _ _ _ _ _ _ _ _ _); (k_here; refine halt ?_)) | ((with_reducible show wpAny _ _ (eval (Expr.ListComp _ _ _ _) _) _ _ _); k_here; refine halt ?_) | ((with_reducible show wpAny _ _ (call (Value.ref _) _) _ _ _); k_here; refine halt ?_) | walk1 | row_room_at HE)) | (leave1; walk_say "STEP leave1"; try dsimp only)))
      refine go ?_
      refine KOpn.add (Nat.le_trans (word_len d1) (by decide)) ?_
      intro twd1 kwd1 _
      (repeat' (first | (k_unfold; (try dsimp only)) | row_room_at HE | (k_end; wrow_close) | ((with_reducible show wpAny _ _ (execs (Stmt.Assign [Expr.Name (Str.ofString "lexer") _] _ _ :: _) _) _ _ _); k_here; refine halt ?_) | ((with_reducible show wpAny _ _ (binaryOp Operator.Add (Value.str _ _) (Value.str _ _)) _ _ _); (k_here; refine halt ?_)) | ((with_reducible show wpAny _ _ (exec (Stmt.For _ _ _ _ _) _) _ _ _); k_here; refine halt ?_) | ((with_reducible show wpAny _ _ (binaryOp Operator.Pow (Value.int _ _) (Value.int _ _)) _ _ _); (k_here; refine halt ?_)) | ((with_reducible show wpAny _ _ (call (Value.builtin "chr") _ _) _ _ _); (k_here; refine halt ?_)) | ((with_reducible show wpAny _ _ (binaryOp Operator.Mult (Value.str _ _) (Value.int _ _)) _ _ _); (k_here; refine halt ?_)) | ((with_reducible show PyProof.Rows.LCg.CompSrc _ _ _ _ _ _ _ _ _ _ _ _ _ _); (k_here; refine halt ?_)) | ((with_reducible show wpAny _ _ (eval (Expr.ListComp _ _ _ _) _) _ _ _); k_here; refine halt ?_) | ((with_reducible show wpAny _ _ (call (Value.ref _) _) _ _ _); k_here; refine halt ?_) | row_room_at HB | (dsimp only; (first | ((with_reducible show wpAny _ _ (execs (Stmt.Assign [Expr.Name (Str.ofString "lexer") _] _ _ :: _) _) _ _ _); k_here; refine halt ?_) | ((with_reducible show wpAny _ _ (binaryOp Operator.Add (Value.str _ _) (Value.str _ _)) _ _ _); (k_here; refine halt ?_)) | ((with_reducible show wpAny _ _ (exec (Stmt.For _ _ _ _ _) _) _ _ _); k_here; refine halt ?_) | ((with_reducible show wpAny _ _ (binaryOp Operator.Pow (Value.int _ _) (Value.int _ _)) _ _ _); (k_here; refine halt ?_)) | ((with_reducible show wpAny _ _ (call (Value.builtin "chr") _ _) _ _ _); (k_here; refine halt ?_)) | ((with_reducible show wpAny _ _ (binaryOp Operator.Mult (Value.str _ _) (Value.int _ _)) _ _ _); (k_here; refine halt ?_)) | ((with_reducible show PyProof.Rows.LCg.CompSrc _ _ _ _ _ _ _ _ _ _ _ _ _ _); (k_here; refine halt ?_)) | ((with_reducible show wpAny _ _ (eval (Expr.ListComp _ _ _ _) _) _ _ _); k_here; refine halt ?_) | ((with_reducible show wpAny _ _ (call (Value.ref _) _) _ _ _); k_here; refine halt ?_) | walk1 | row_room_at HE)) | (leave1; walk_say "STEP leave1"; try dsimp only)))
      refine go ?_
      (with_reducible rename Fr _ _ _ _ => F9)
      (with_reducible rename News _ _ _ _ => N9)
      simp only [List.push_toArray, List.nil_append, List.cons_append] at N9
      have N10 := news_drop3 N9
      clear N9
      (repeat row_room_at HE)
      refine' next _ _ _ _ DM _ _ twd0 twd1 u0 u1 _ F9 ?n2 ?n3 ?n4 ?n5 N10
      (case n2 => exact ⟨rfl, trivial⟩)
      (case n3 => assumption)
      (case n4 => omega)
      (case n5 => exact off.2)
theorem s2b {w : World} {p : Program} {loose : List Str} {mean : ExcName → Option Value} {mg mb : Str → Option Value} {dp un : Nat} {fs : Option (List Env)} {gd : Option (List Code)} {g : Heap} {L fa : Addr} {cd : Value} {s : Shared} {Q : Flow → Shared → Prop}
  (hdp : dp + 40 < recursionLimit) (hun : un + 400 < cLine) (X' : (hd.heap_39 w.params).In g) (T' : Top p loose mean mg mb g) (hC1 : CodeHd g 163 159) (hC2 : CodeHd g 111 107)
  (ret : ∀ h' tk', (∀ b o, g.get? b = some o → h'.get? b = some o) → GrownAt 159 h' → GrownAt 107 h' → Q (.ret (.bool true)) { s with heap := h', toks := tk' })
  {D : Addr} {d0 d1 d2 : Nat} {t0 t1 t2 : Tok} {n : Nat} (hd0 : d0 < 1000000) (hd1 : d1 < 1000000) (hd2 : d2 < 1000000) (hLt : @LT.lt Nat _ 159 L ∧ @LT.lt Nat _ 107 L) (hDL : @LT.lt Nat _ (L + 1 + 1 + 1 + 1) D)
  {m : Str → Option Value} (F : Fr g L s.heap m) (hm : Knows m [("drawn", .ref D)])
  {c1 c2 c3 c4 : Obj} (hc1 : c1.data = .cell none) (hc2 : c2.data = .cell none) (hc3 : c3.data = .cell none) (hc4 : c4.data = .cell none)
  (N : News g L s.heap [(D, listOf #[.int (d0 : Int) t0, .int (d1 : Int) t1, .int (d2 : Int) t2] n), (L + 1 + 1 + 1 + 1, c4), (L + 1 + 1 + 1, c3), (L + 1 + 1, c2), (L + 1, c1), (159, tabObj #[]), (107, tabObj #[])])
  (next : ∀ h' tk' m' (W M : Addr) (nW nM : Nat) (v0 v1 v2 u0 u1 u2 : Tok) (c1' : Obj), Fr g L h' m' → Knows m' [("words", .ref W)] → c1'.data = .cell (some (.ref M)) → (@LT.lt Nat _ M W ∧ @LT.lt Nat _ (L + 1 + 1 + 1 + 1) W) → (@Ne Nat (L + 1 + 1 + 1 + 1) M ∧ @Ne Nat (L + 1 + 1 + 1) M ∧ @Ne Nat (L + 1 + 1) M ∧ @Ne Nat (L + 1) M ∧ @Ne Nat 159 M ∧ @Ne Nat 107 M) →
    News g L h' [(W, listOf #[.str (wordN d0) v0, .str (wordN d1) v1, .str (wordN d2) v2] nW), (M, listOf #[.int ((maskN d0 : Nat) : Int) u0, .int ((maskN d1 : Nat) : Int) u1, .int ((maskN d2 : Nat) : Int) u2] nM), (L + 1 + 1 + 1 + 1, c4), (L + 1 + 1 + 1, c3), (L + 1 + 1, c2), (L + 1, c1'), (159, tabObj #[]), (107, tabObj #[])] →
    wpAny (model PySem.Challenge.rw_ty0032_01.row.prog w) ((arA dp un fs gd).deeper (lawEnv L fa cd)) (execs (lawR.body.drop 5) (lawEnv L fa cd)) Q (fun _ _ => False) { s with heap := h', toks := tk' }) :
  wpAny (model PySem.Challenge.rw_ty0032_01.row.prog w) ((arA dp un fs gd).deeper (lawEnv L fa cd)) (execs (lawR.body.drop 2) (lawEnv L fa cd)) Q (fun _ _ => False) s := by
    unfold lawEnv at next ⊢
    dsimp only [lawR, recOf, List.drop] at next ⊢
    replace F := fr_knows hm F
    clear hm
    (repeat' (first | (k_unfold; (try dsimp only)) | row_room_at HE | (k_end; wrow_close) | ((with_reducible show wpAny _ _ (execs (Stmt.Assign [Expr.Name (Str.ofString "lexer") _] _ _ :: _) _) _ _ _); k_here; refine halt ?_) | ((with_reducible show wpAny _ _ (binaryOp Operator.Add (Value.str _ _) (Value.str _ _)) _ _ _); (k_here; refine halt ?_)) | ((with_reducible show wpAny _ _ (exec (Stmt.For _ _ _ _ _) _) _ _ _); k_here; refine halt ?_) | ((with_reducible show wpAny _ _ (binaryOp Operator.Pow (Value.int _ _) (Value.int _ _)) _ _ _); (k_here; refine halt ?_)) | ((with_reducible show wpAny _ _ (call (Value.builtin "chr") _ _) _ _ _); (k_here; refine halt ?_)) | ((with_reducible show wpAny _ _ (binaryOp Operator.Mult (Value.str _ _) (Value.int _ _)) _ _ _); (k_here; refine halt ?_)) | ((with_reducible show PyProof.Rows.LCg.CompSrc _ _ _ _ _ _ _ _ _ _ _ _ _ _); (k_here; refine halt ?_)) | ((with_reducible show wpAny _ _ (eval (Expr.ListComp _ _ _ _) _) _ _ _); k_here; refine halt ?_) | ((with_reducible show wpAny _ _ (call (Value.ref _) _) _ _ _); k_here; refine halt ?_) | row_room_at HB | (dsimp only; (first | ((with_reducible show wpAny _ _ (execs (Stmt.Assign [Expr.Name (Str.ofString "lexer") _] _ _ :: _) _) _ _ _); k_here; refine halt ?_) | ((with_reducible show wpAny _ _ (binaryOp Operator.Add (Value.str _ _) (Value.str _ _)) _ _ _); (k_here; refine halt ?_)) | ((with_reducible show wpAny _ _ (exec (Stmt.For _ _ _ _ _) _) _ _ _); k_here; refine halt ?_) | ((with_reducible show wpAny _ _ (binaryOp Operator.Pow (Value.int _ _) (Value.int _ _)) _ _ _); (k_here; refine halt ?_)) | ((with_reducible show wpAny _ _ (call (Value.builtin "chr") _ _) _ _ _); (k_here; refine halt ?_)) | ((with_reducible show wpAny _ _ (binaryOp Operator.Mult (Value.str _ _) (Value.int _ _)) _ _ _); (k_here; refine halt ?_)) | ((with_reducible show PyProof.Rows.LCg.CompSrc _ _ _ _ _ _ _ _ _ _ _ _ _ _); (k_here; refine halt ?_)) | ((with_reducible show wpAny _ _ (eval (Expr.ListComp _ _ _ _) _) _ _ _); k_here; refine halt ?_) | ((with_reducible show wpAny _ _ (call (Value.ref _) _) _ _ _); k_here; refine halt ?_) | walk1 | row_room_at HE)) | (leave1; walk_say "STEP leave1"; try dsimp only)))
    refine go ?_
    refine LCg.ListComp_U (F₀ := by k_asm) (by with_unfolding_all rfl) (by decide) (by rfl) (by decide) (by rfl) ?_
    (repeat' (first | (k_unfold; (try dsimp only)) | row_room_at HE | (k_end; wrow_close) | ((with_reducible show wpAny _ _ (execs (Stmt.Assign [Expr.Name (Str.ofString "lexer") _] _ _ :: _) _) _ _ _); k_here; refine halt ?_) | ((with_reducible show wpAny _ _ (binaryOp Operator.Add (Value.str _ _) (Value.str _ _)) _ _ _); (k_here; refine halt ?_)) | ((with_reducible show wpAny _ _ (exec (Stmt.For _ _ _ _ _) _) _ _ _); k_here; refine halt ?_) | ((with_reducible show wpAny _ _ (binaryOp Operator.Pow (Value.int _ _) (Value.int _ _)) _ _ _); (k_here; refine halt ?_)) | ((with_reducible show wpAny _ _ (call (Value.builtin "chr") _ _) _ _ _); (k_here; refine halt ?_)) | ((with_reducible show wpAny _ _ (binaryOp Operator.Mult (Value.str _ _) (Value.int _ _)) _ _ _); (k_here; refine halt ?_)) | ((with_reducible show PyProof.Rows.LCg.CompSrc _ _ _ _ _ _ _ _ _ _ _ _ _ _); (k_here; refine halt ?_)) | ((with_reducible show wpAny _ _ (eval (Expr.ListComp _ _ _ _) _) _ _ _); k_here; refine halt ?_) | ((with_reducible show wpAny _ _ (call (Value.ref _) _) _ _ _); k_here; refine halt ?_) | row_room_at HB | (dsimp only; (first | ((with_reducible show wpAny _ _ (execs (Stmt.Assign [Expr.Name (Str.ofString "lexer") _] _ _ :: _) _) _ _ _); k_here; refine halt ?_) | ((with_reducible show wpAny _ _ (binaryOp Operator.Add (Value.str _ _) (Value.str _ _)) _ _ _); (k_here; refine halt ?_)) | ((with_reducible show wpAny _ _ (exec (Stmt.For _ _ _ _ _) _) _ _ _); k_here; refine halt ?_) | ((with_reducible show wpAny _ _ (binaryOp Operator.Pow (Value.int _ _) (Value.int _ _)) _ _ _); (k_here; refine halt ?_)) | ((with_reducible show wpAny _ _ (call (Value.builtin "chr") _ _) _ _ _); (k_here; refine halt ?_)) | ((with_reducible show wpAny _ _ (binaryOp Operator.Mult (Value.str _ _) (Value.int _ _)) _ _ _); (k_here; refine halt ?_)) | ((with_reducible show PyProof.Rows.LCg.CompSrc _ _ _ _ _ _ _ _ _ _ _ _ _ _); (k_here; refine halt ?_)) | ((with_reducible show wpAny _ _ (eval (Expr.ListComp _ _ _ _) _) _ _ _); k_here; refine halt ?_) | ((with_reducible show wpAny _ _ (call (Value.ref _) _) _ _ _); k_here; refine halt ?_) | walk1 | row_room_at HE)) | (leave1; walk_say "STEP leave1"; try dsimp only)))
    refine go ?_
    (with_reducible rename Fr _ _ _ _ => F1)
    (with_reducible rename News _ _ _ _ => N1)
    refine LCg.CompSrc.ledger rfl F1 N1 (.head _) (size_small (by exact Nat.le_of_ble_eq_true rfl)) ?_
    intro gg
    refine compRest_J (fun i ys news => IntsAre ys (masksI ([d0, d1, d2].take i)) ∧ news = [(D, listOf #[.int (d0 : Int) t0, .int (d1 : Int) t1, .int (d2 : Int) t2] n), (L + 1 + 1 + 1 + 1, c4), (L + 1 + 1 + 1, c3), (L + 1 + 1, c2), (L + 1, c1), (159, tabObj #[]), (107, tabObj #[])]) ?_ ?_ _ 0 [] _ (Nat.zero_add _) ⟨.nil, rfl⟩
    · clear F1 N1 next
      rintro i ys news v I oI C oC DD m₂ h tk E' hin ⟨hys, rfl⟩ hv hC hx F N off ne
      obtain ⟨d, hd, td, rfl⟩ : ∃ d : Nat, [d0, d1, d2][i]? = some d ∧ ∃ td, v = .int (d : Int) td := by
        have hi2 : i < 3 := hin
        obtain rfl | rfl | rfl : i = 0 ∨ i = 1 ∨ i = 2 := by omega
        · exact ⟨d0, rfl, t0, (Option.some.inj hv).symm⟩
        · exact ⟨d1, rfl, t1, (Option.some.inj hv).symm⟩
        · exact ⟨d2, rfl, t2, (Option.some.inj hv).symm⟩
      (refine hideP ?_; intro PP hPP); (obtain ⟨e1, e2, e3, e4, e5, e6⟩ := mask_facts d) <;> (refine hPP ?_; clear hPP; clear PP)
      (repeat' (first | (k_unfold; (try dsimp only)) | row_room_at HE | (k_end; wrow_close) | ((with_reducible show wpAny _ _ (execs (Stmt.Assign [Expr.Name (Str.ofString "lexer") _] _ _ :: _) _) _ _ _); k_here; refine halt ?_) | ((with_reducible show wpAny _ _ (binaryOp Operator.Add (Value.str _ _) (Value.str _ _)) _ _ _); (k_here; refine halt ?_)) | ((with_reducible show wpAny _ _ (exec (Stmt.For _ _ _ _ _) _) _ _ _); k_here; refine halt ?_) | ((with_reducible show wpAny _ _ (binaryOp Operator.Pow (Value.int _ _) (Value.int _ _)) _ _ _); (k_here; refine halt ?_)) | ((with_reducible show wpAny _ _ (call (Value.builtin "chr") _ _) _ _ _); (k_here; refine halt ?_)) | ((with_reducible show wpAny _ _ (binaryOp Operator.Mult (Value.str _ _) (Value.int _ _)) _ _ _); (k_here; refine halt ?_)) | ((with_reducible show PyProof.Rows.LCg.CompSrc _ _ _ _ _ _ _ _ _ _ _ _ _ _); (k_here; refine halt ?_)) | ((with_reducible show wpAny _ _ (eval (Expr.ListComp _ _ _ _) _) _ _ _); k_here; refine halt ?_) | ((with_reducible show wpAny _ _ (call (Value.ref _) _) _ _ _); k_here; refine halt ?_) | row_room_at HB | (dsimp only; (first | ((with_reducible show wpAny _ _ (execs (Stmt.Assign [Expr.Name (Str.ofString "lexer") _] _ _ :: _) _) _ _ _); k_here; refine halt ?_) | ((with_reducible show wpAny _ _ (binaryOp Operator.Add (Value.str _ _) (Value.str _ _)) _ _ _); (k_here; refine halt ?_)) | ((with_reducible show wpAny _ _ (exec (Stmt.For _ _ _ _ _) _) _ _ _); k_here; refine halt ?_) | ((with_reducible show wpAny _ _ (binaryOp Operator.Pow (Value.int _ _) (Value.int _ _)) _ _ _); (k_here; refine halt ?_)) | ((with_reducible show wpAny _ _ (call (Value.builtin "chr") _ _) _ _ _); (k_here; refine halt ?_)) | ((with_reducible show wpAny _ _ (binaryOp Operator.Mult (Value.str _ _) (Value.int _ _)) _ _ _); (k_here; refine halt ?_)) | ((with_reducible show PyProof.Rows.LCg.CompSrc _ _ _ _ _ _ _ _ _ _ _ _ _ _); (k_here; refine halt ?_)) | ((with_reducible show wpAny _ _ (eval (Expr.ListComp _ _ _ _) _) _ _ _); k_here; refine halt ?_) | ((with_reducible show wpAny _ _ (call (Value.ref _) _) _ _ _); k_here; refine halt ?_) | walk1 | row_room_at HE)) | (leave1; walk_say "STEP leave1"; try dsimp only)))
      refine go ?_
      refine pow_mask e1 e4 ?_
      (repeat' (first | (k_unfold; (try dsimp only)) | row_room_at HE | (k_end; wrow_close) | ((with_reducible show wpAny _ _ (execs (Stmt.Assign [Expr.Name (Str.ofString "lexer") _] _ _ :: _) _) _ _ _); k_here; refine halt ?_) | ((with_reducible show wpAny _ _ (binaryOp Operator.Add (Value.str _ _) (Value.str _ _)) _ _ _); (k_here; refine halt ?_)) | ((with_reducible show wpAny _ _ (exec (Stmt.For _ _ _ _ _) _) _ _ _); k_here; refine halt ?_) | ((with_reducible show wpAny _ _ (binaryOp Operator.Pow (Value.int _ _) (Value.int _ _)) _ _ _); (k_here; refine halt ?_)) | ((with_reducible show wpAny _ _ (call (Value.builtin "chr") _ _) _ _ _); (k_here; refine halt ?_)) | ((with_reducible show wpAny _ _ (binaryOp Operator.Mult (Value.str _ _) (Value.int _ _)) _ _ _); (k_here; refine halt ?_)) | ((with_reducible show PyProof.Rows.LCg.CompSrc _ _ _ _ _ _ _ _ _ _ _ _ _ _); (k_here; refine halt ?_)) | ((with_reducible show wpAny _ _ (eval (Expr.ListComp _ _ _ _) _) _ _ _); k_here; refine halt ?_) | ((with_reducible show wpAny _ _ (call (Value.ref _) _) _ _ _); k_here; refine halt ?_) | row_room_at HB | (dsimp only; (first | ((with_reducible show wpAny _ _ (execs (Stmt.Assign [Expr.Name (Str.ofString "lexer") _] _ _ :: _) _) _ _ _); k_here; refine halt ?_) | ((with_reducible show wpAny _ _ (binaryOp Operator.Add (Value.str _ _) (Value.str _ _)) _ _ _); (k_here; refine halt ?_)) | ((with_reducible show wpAny _ _ (exec (Stmt.For _ _ _ _ _) _) _ _ _); k_here; refine halt ?_) | ((with_reducible show wpAny _ _ (binaryOp Operator.Pow (Value.int _ _) (Value.int _ _)) _ _ _); (k_here; refine halt ?_)) | ((with_reducible show wpAny _ _ (call (Value.builtin "chr") _ _) _ _ _); (k_here; refine halt ?_)) | ((with_reducible show wpAny _ _ (binaryOp Operator.Mult (Value.str _ _) (Value.int _ _)) _ _ _); (k_here; refine halt ?_)) | ((with_reducible show PyProof.Rows.LCg.CompSrc _ _ _ _ _ _ _ _ _ _ _ _ _ _); (k_here; refine halt ?_)) | ((with_reducible show wpAny _ _ (eval (Expr.ListComp _ _ _ _) _) _ _ _); k_here; refine halt ?_) | ((with_reducible show wpAny _ _ (call (Value.ref _) _) _ _ _); k_here; refine halt ?_) | walk1 | row_room_at HE)) | (leave1; walk_say "STEP leave1"; try dsimp only)))
      refine go ?_
      refine pow_mask e2 e5 ?_
      (repeat' (first | (k_unfold; (try dsimp only)) | row_room_at HE | (k_end; wrow_close) | ((with_reducible show wpAny _ _ (execs (Stmt.Assign [Expr.Name (Str.ofString "lexer") _] _ _ :: _) _) _ _ _); k_here; refine halt ?_) | ((with_reducible show wpAny _ _ (binaryOp Operator.Add (Value.str _ _) (Value.str _ _)) _ _ _); (k_here; refine halt ?_)) | ((with_reducible show wpAny _ _ (exec (Stmt.For _ _ _ _ _) _) _ _ _); k_here; refine halt ?_) | ((with_reducible show wpAny _ _ (binaryOp Operator.Pow (Value.int _ _) (Value.int _ _)) _ _ _); (k_here; refine halt ?_)) | ((with_reducible show wpAny _ _ (call (Value.builtin "chr") _ _) _ _ _); (k_here; refine halt ?_)) | ((with_reducible show wpAny _ _ (binaryOp Operator.Mult (Value.str _ _) (Value.int _ _)) _ _ _); (k_here; refine halt ?_)) | ((with_reducible show PyProof.Rows.LCg.CompSrc _ _ _ _ _ _ _ _ _ _ _ _ _ _); (k_here; refine halt ?_)) | ((with_reducible show wpAny _ _ (eval (Expr.ListComp _ _ _ _) _) _ _ _); k_here; refine halt ?_) | ((with_reducible show wpAny _ _ (call (Value.ref _) _) _ _ _); k_here; refine halt ?_) | row_room_at HB | (dsimp only; (first | ((with_reducible show wpAny _ _ (execs (Stmt.Assign [Expr.Name (Str.ofString "lexer") _] _ _ :: _) _) _ _ _); k_here; refine halt ?_) | ((with_reducible show wpAny _ _ (binaryOp Operator.Add (Value.str _ _) (Value.str _ _)) _ _ _); (k_here; refine halt ?_)) | ((with_reducible show wpAny _ _ (exec (Stmt.For _ _ _ _ _) _) _ _ _); k_here; refine halt ?_) | ((with_reducible show wpAny _ _ (binaryOp Operator.Pow (Value.int _ _) (Value.int _ _)) _ _ _); (k_here; refine halt ?_)) | ((with_reducible show wpAny _ _ (call (Value.builtin "chr") _ _) _ _ _); (k_here; refine halt ?_)) | ((with_reducible show wpAny _ _ (binaryOp Operator.Mult (Value.str _ _) (Value.int _ _)) _ _ _); (k_here; refine halt ?_)) | ((with_reducible show PyProof.Rows.LCg.CompSrc _ _ _ _ _ _ _ _ _ _ _ _ _ _); (k_here; refine halt ?_)) | ((with_reducible show wpAny _ _ (eval (Expr.ListComp _ _ _ _) _) _ _ _); k_here; refine halt ?_) | ((with_reducible show wpAny _ _ (call (Value.ref _) _) _ _ _); k_here; refine halt ?_) | walk1 | row_room_at HE)) | (leave1; walk_say "STEP leave1"; try dsimp only)))
      refine go ?_
      refine pow_mask e3 e6 ?_
      (repeat' (first | (k_unfold; (try dsimp only)) | row_room_at HE | (k_end; wrow_close) | ((with_reducible show wpAny _ _ (execs (Stmt.Assign [Expr.Name (Str.ofString "lexer") _] _ _ :: _) _) _ _ _); k_here; refine halt ?_) | ((with_reducible show wpAny _ _ (binaryOp Operator.Add (Value.str _ _) (Value.str _ _)) _ _ _); (k_here; refine halt ?_)) | ((with_reducible show wpAny _ _ (exec (Stmt.For _ _ _ _ _) _) _ _ _); k_here; refine halt ?_) | ((with_reducible show wpAny _ _ (binaryOp Operator.Pow (Value.int _ _) (Value.int _ _)) _ _ _); (k_here; refine halt ?_)) | ((with_reducible show wpAny _ _ (call (Value.builtin "chr") _ _) _ _ _); (k_here; refine halt ?_)) | ((with_reducible show wpAny _ _ (binaryOp Operator.Mult (Value.str _ _) (Value.int _ _)) _ _ _); (k_here; refine halt ?_)) | ((with_reducible show PyProof.Rows.LCg.CompSrc _ _ _ _ _ _ _ _ _ _ _ _ _ _); (k_here; refine halt ?_)) | ((with_reducible show wpAny _ _ (eval (Expr.ListComp _ _ _ _) _) _ _ _); k_here; refine halt ?_) | ((with_reducible show wpAny _ _ (call (Value.ref _) _) _ _ _); k_here; refine halt ?_) | row_room_at HB | (dsimp only; (first | ((with_reducible show wpAny _ _ (execs (Stmt.Assign [Expr.Name (Str.ofString "lexer") _] _ _ :: _) _) _ _ _); k_here; refine halt ?_) | ((with_reducible show wpAny _ _ (binaryOp Operator.Add (Value.str _ _) (Value.str _ _)) _ _ _); (k_here; refine halt ?_)) | ((with_reducible show wpAny _ _ (exec (Stmt.For _ _ _ _ _) _) _ _ _); k_here; refine halt ?_) | ((with_reducible show wpAny _ _ (binaryOp Operator.Pow (Value.int _ _) (Value.int _ _)) _ _ _); (k_here; refine halt ?_)) | ((with_reducible show wpAny _ _ (call (Value.builtin "chr") _ _) _ _ _); (k_here; refine halt ?_)) | ((with_reducible show wpAny _ _ (binaryOp Operator.Mult (Value.str _ _) (Value.int _ _)) _ _ _); (k_here; refine halt ?_)) | ((with_reducible show PyProof.Rows.LCg.CompSrc _ _ _ _ _ _ _ _ _ _ _ _ _ _); (k_here; refine halt ?_)) | ((with_reducible show wpAny _ _ (eval (Expr.ListComp _ _ _ _) _) _ _ _); k_here; refine halt ?_) | ((with_reducible show wpAny _ _ (call (Value.ref _) _) _ _ _); k_here; refine halt ?_) | walk1 | row_room_at HE)) | (leave1; walk_say "STEP leave1"; try dsimp only)))
      refine LCg.CompEnd.intro F N _ (fun _ hp => hp) off (.inr ⟨_, .head _, rfl, _, rfl⟩) ⟨?_, rfl⟩
      exact mask_snoc hys hd _
    · rintro ys news ⟨hys, rfl⟩ DM h3 tk3 F3 N3 off
      simp only [LCg.Off1, and_true] at off
      obtain ⟨hLt1, hLt2⟩ := hLt
      clear F1 N1
      have hys0 := hys
      clear hys
      (refine hideP ?_; intro PP hPP); (obtain ⟨u0, _, rfl, hys1⟩ := ints_cons hys0) <;> (refine hPP ?_; clear hPP; clear PP)
      clear hys0
      (refine hideP ?_; intro PP hPP); (obtain ⟨u1, _, rfl, hys2⟩ := ints_cons hys1) <;> (refine hPP ?_; clear hPP; clear PP)
      clear hys1
      (refine hideP ?_; intro PP hPP); (obtain ⟨u2, _, rfl, hys3⟩ := ints_cons hys2) <;> (refine hPP ?_; clear hPP; clear PP)
      clear hys2
      obtain rfl := ints_nil hys3
      clear hys3
      have N4 : News g L h3 [(DM, listOf #[.int ((maskN d0 : Nat) : Int) u0, .int ((maskN d1 : Nat) : Int) u1, .int ((maskN d2 : Nat) : Int) u2] 3), (D, listOf #[.int (d0 : Int) t0, .int (d1 : Int) t1, .int (d2 : Int) t2] n), (L + 1 + 1 + 1 + 1, c4), (L + 1 + 1 + 1, c3), (L + 1 + 1, c2), (L + 1, c1), (159, tabObj #[]), (107, tabObj #[])] := N3
      clear N3
      (repeat' (first | (k_unfold; (try dsimp only)) | row_room_at HE | (k_end; wrow_close) | ((with_reducible show wpAny _ _ (execs (Stmt.Assign [Expr.Name (Str.ofString "lexer") _] _ _ :: _) _) _ _ _); k_here; refine halt ?_) | ((with_reducible show wpAny _ _ (binaryOp Operator.Add (Value.str _ _) (Value.str _ _)) _ _ _); (k_here; refine halt ?_)) | ((with_reducible show wpAny _ _ (exec (Stmt.For _ _ _ _ _) _) _ _ _); k_here; refine halt ?_) | ((with_reducible show wpAny _ _ (binaryOp Operator.Pow (Value.int _ _) (Value.int _ _)) _ _ _); (k_here; refine halt ?_)) | ((with_reducible show wpAny _ _ (call (Value.builtin "chr") _ _) _ _ _); (k_here; refine halt ?_)) | ((with_reducible show wpAny _ _ (binaryOp Operator.Mult (Value.str _ _) (Value.int _ _)) _ _ _); (k_here; refine halt ?_)) | ((with_reducible show PyProof.Rows.LCg.CompSrc _ _ _ _ _ _ _ _ _ _ _ _ _ _); (k_here; refine halt ?_)) | ((with_reducible show wpAny _ _ (eval (Expr.ListComp _ _ _ _) _) _ _ _); k_here; refine halt ?_) | ((with_reducible show wpAny _ _ (call (Value.ref _) _) _ _ _); k_here; refine halt ?_) | row_room_at HB | (dsimp only; (first | ((with_reducible show wpAny _ _ (execs (Stmt.Assign [Expr.Name (Str.ofString "lexer") _] _ _ :: _) _) _ _ _); k_here; refine halt ?_) | ((with_reducible show wpAny _ _ (binaryOp Operator.Add (Value.str _ _) (Value.str _ _)) _ _ _); (k_here; refine halt ?_)) | ((with_reducible show wpAny _ _ (exec (Stmt.For _ _ _ _ _) _) _ _ _); k_here; refine halt ?_) | ((with_reducible show wpAny _ _ (binaryOp Operator.Pow (Value.int _ _) (Value.int _ _)) _ _ _); (k_here; refine halt ?_)) | ((with_reducible show wpAny _ _ (call (Value.builtin "chr") _ _) _ _ _); (k_here; refine halt ?_)) | ((with_reducible show wpAny _ _ (binaryOp Operator.Mult (Value.str _ _) (Value.int _ _)) _ _ _); (k_here; refine halt ?_)) | ((with_reducible show PyProof.Rows.LCg.CompSrc _ _ _ _ _ _ _ _ _ _ _ _ _ _); (k_here; refine halt ?_)) | ((with_reducible show wpAny _ _ (eval (Expr.ListComp _ _ _ _) _) _ _ _); k_here; refine halt ?_) | ((with_reducible show wpAny _ _ (call (Value.ref _) _) _ _ _); k_here; refine halt ?_) | walk1 | row_room_at HE)) | (leave1; walk_say "STEP leave1"; try dsimp only)))
      refine go ?_
      (with_reducible rename Fr _ _ _ _ => F5)
      (with_unfolding_all refine' For_turns F5 ?_; k_whole)
      (repeat' (first | (k_unfold; (try dsimp only)) | row_room_at HE | (k_end; wrow_close) | ((with_reducible show wpAny _ _ (execs (Stmt.Assign [Expr.Name (Str.ofString "lexer") _] _ _ :: _) _) _ _ _); k_here; refine halt ?_) | ((with_reducible show wpAny _ _ (binaryOp Operator.Add (Value.str _ _) (Value.str _ _)) _ _ _); (k_here; refine halt ?_)) | ((with_reducible show wpAny _ _ (exec (Stmt.For _ _ _ _ _) _) _ _ _); k_here; refine halt ?_) | ((with_reducible show wpAny _ _ (binaryOp Operator.Pow (Value.int _ _) (Value.int _ _)) _ _ _); (k_here; refine halt ?_)) | ((with_reducible show wpAny _ _ (call (Value.builtin "chr") _ _) _ _ _); (k_here; refine halt ?_)) | ((with_reducible show wpAny _ _ (binaryOp Operator.Mult (Value.str _ _) (Value.int _ _)) _ _ _); (k_here; refine halt ?_)) | ((with_reducible show PyProof.Rows.LCg.CompSrc _ _ _ _ _ _ _ _ _ _ _ _ _ _); (k_here; refine halt ?_)) | ((with_reducible show wpAny _ _ (eval (Expr.ListComp _ _ _ _) _) _ _ _); k_here; refine halt ?_) | ((with_reducible show wpAny _ _ (call (Value.ref _) _) _ _ _); k_here; refine halt ?_) | row_room_at HB | (dsimp only; (first | ((with_reducible show wpAny _ _ (execs (Stmt.Assign [Expr.Name (Str.ofString "lexer") _] _ _ :: _) _) _ _ _); k_here; refine halt ?_) | ((with_reducible show wpAny _ _ (binaryOp Operator.Add (Value.str _ _) (Value.str _ _)) _ _ _); (k_here; refine halt ?_)) | ((with_reducible show wpAny _ _ (exec (Stmt.For _ _ _ _ _) _) _ _ _); k_here; refine halt ?_) | ((with_reducible show wpAny _ _ (binaryOp Operator.Pow (Value.int _ _) (Value.int _ _)) _ _ _); (k_here; refine halt ?_)) | ((with_reducible show wpAny _ _ (call (Value.builtin "chr") _ _) _ _ _); (k_here; refine halt ?_)) | ((with_reducible show wpAny _ _ (binaryOp Operator.Mult (Value.str _ _) (Value.int _ _)) _ _ _); (k_here; refine halt ?_)) | ((with_reducible show PyProof.Rows.LCg.CompSrc _ _ _ _ _ _ _ _ _ _ _ _ _ _); (k_here; refine halt ?_)) | ((with_reducible show wpAny _ _ (eval (Expr.ListComp _ _ _ _) _) _ _ _); k_here; refine halt ?_) | ((with_reducible show wpAny _ _ (call (Value.ref _) _) _ _ _); k_here; refine halt ?_) | walk1 | row_room_at HE)) | (leave1; walk_say "STEP leave1"; try dsimp only)))
      refine go ?_
      refine mul_at (word_facts d0).1 (word_facts d0).2.1 ?_
      intro tmd0 kmd0
      (repeat' (first | (k_unfold; (try dsimp only)) | row_room_at HE | (k_end; wrow_close) | ((with_reducible show wpAny _ _ (execs (Stmt.Assign [Expr.Name (Str.ofString "lexer") _] _ _ :: _) _) _ _ _); k_here; refine halt ?_) | ((with_reducible show wpAny _ _ (binaryOp Operator.Add (Value.str _ _) (Value.str _ _)) _ _ _); (k_here; refine halt ?_)) | ((with_reducible show wpAny _ _ (exec (Stmt.For _ _ _ _ _) _) _ _ _); k_here; refine halt ?_) | ((with_reducible show wpAny _ _ (binaryOp Operator.Pow (Value.int _ _) (Value.int _ _)) _ _ _); (k_here; refine halt ?_)) | ((with_reducible show wpAny _ _ (call (Value.builtin "chr") _ _) _ _ _); (k_here; refine halt ?_)) | ((with_reducible show wpAny _ _ (binaryOp Operator.Mult (Value.str _ _) (Value.int _ _)) _ _ _); (k_here; refine halt ?_)) | ((with_reducible show PyProof.Rows.LCg.CompSrc _ _ _ _ _ _ _ _ _ _ _ _ _ _); (k_here; refine halt ?_)) | ((with_reducible show wpAny _ _ (eval (Expr.ListComp _ _ _ _) _) _ _ _); k_here; refine halt ?_) | ((with_reducible show wpAny _ _ (call (Value.ref _) _) _ _ _); k_here; refine halt ?_) | row_room_at HB | (dsimp only; (first | ((with_reducible show wpAny _ _ (execs (Stmt.Assign [Expr.Name (Str.ofString "lexer") _] _ _ :: _) _) _ _ _); k_here; refine halt ?_) | ((with_reducible show wpAny _ _ (binaryOp Operator.Add (Value.str _ _) (Value.str _ _)) _ _ _); (k_here; refine halt ?_)) | ((with_reducible show wpAny _ _ (exec (Stmt.For _ _ _ _ _) _) _ _ _); k_here; refine halt ?_) | ((with_reducible show wpAny _ _ (binaryOp Operator.Pow (Value.int _ _) (Value.int _ _)) _ _ _); (k_here; refine halt ?_)) | ((with_reducible show wpAny _ _ (call (Value.builtin "chr") _ _) _ _ _); (k_here; refine halt ?_)) | ((with_reducible show wpAny _ _ (binaryOp Operator.Mult (Value.str _ _) (Value.int _ _)) _ _ _); (k_here; refine halt ?_)) | ((with_reducible show PyProof.Rows.LCg.CompSrc _ _ _ _ _ _ _ _ _ _ _ _ _ _); (k_here; refine halt ?_)) | ((with_reducible show wpAny _ _ (eval (Expr.ListComp _ _ _ _) _) _ _ _); k_here; refine halt ?_) | ((with_reducible show wpAny _ _ (call (Value.ref _) _) _ _ _); k_here; refine halt ?_) | walk1 | row_room_at HE)) | (leave1; walk_say "STEP leave1"; try dsimp only)))
      refine go ?_
      refine chr_at (word_facts d0).2.2.1 (word_facts d0).2.2.2 ?_
      (repeat' (first | (k_unfold; (try dsimp only)) | row_room_at HE | (k_end; wrow_close) | ((with_reducible show wpAny _ _ (execs (Stmt.Assign [Expr.Name (Str.ofString "lexer") _] _ _ :: _) _) _ _ _); k_here; refine halt ?_) | ((with_reducible show wpAny _ _ (binaryOp Operator.Add (Value.str _ _) (Value.str _ _)) _ _ _); (k_here; refine halt ?_)) | ((with_reducible show wpAny _ _ (exec (Stmt.For _ _ _ _ _) _) _ _ _); k_here; refine halt ?_) | ((with_reducible show wpAny _ _ (binaryOp Operator.Pow (Value.int _ _) (Value.int _ _)) _ _ _); (k_here; refine halt ?_)) | ((with_reducible show wpAny _ _ (call (Value.builtin "chr") _ _) _ _ _); (k_here; refine halt ?_)) | ((with_reducible show wpAny _ _ (binaryOp Operator.Mult (Value.str _ _) (Value.int _ _)) _ _ _); (k_here; refine halt ?_)) | ((with_reducible show PyProof.Rows.LCg.CompSrc _ _ _ _ _ _ _ _ _ _ _ _ _ _); (k_here; refine halt ?_)) | ((with_reducible show wpAny _ _ (eval (Expr.ListComp _ _ _ _) _) _ _ _); k_here; refine halt ?_) | ((with_reducible show wpAny _ _ (call (Value.ref _) _) _ _ _); k_here; refine halt ?_) | row_room_at HB | (dsimp only; (first | ((with_reducible show wpAny _ _ (execs (Stmt.Assign [Expr.Name (Str.ofString "lexer") _] _ _ :: _) _) _ _ _); k_here; refine halt ?_) | ((with_reducible show wpAny _ _ (binaryOp Operator.Add (Value.str _ _) (Value.str _ _)) _ _ _); (k_here; refine halt ?_)) | ((with_reducible show wpAny _ _ (exec (Stmt.For _ _ _ _ _) _) _ _ _); k_here; refine halt ?_) | ((with_reducible show wpAny _ _ (binaryOp Operator.Pow (Value.int _ _) (Value.int _ _)) _ _ _); (k_here; refine halt ?_)) | ((with_reducible show wpAny _ _ (call (Value.builtin "chr") _ _) _ _ _); (k_here; refine halt ?_)) | ((with_reducible show wpAny _ _ (binaryOp Operator.Mult (Value.str _ _) (Value.int _ _)) _ _ _); (k_here; refine halt ?_)) | ((with_reducible show PyProof.Rows.LCg.CompSrc _ _ _ _ _ _ _ _ _ _ _ _ _ _); (k_here; refine halt ?_)) | ((with_reducible show wpAny _ _ (eval (Expr.ListComp _ _ _ _) _) _ _ _); k_here; refine halt ?_) | ((with_reducible show wpAny _ _ (call (Value.ref _) _) _ _ _); k_here; refine halt ?_) | walk1 | row_room_at HE)) | (leave1; walk_say "STEP leave1"; try dsimp only)))
      refine go ?_
      refine KOpn.add (Nat.le_trans (word_len d0) (by decide)) ?_
      intro twd0 kwd0 _
      (repeat' (first | (k_unfold; (try dsimp only)) | row_room_at HE | (k_end; wrow_close) | ((with_reducible show wpAny _ _ (execs (Stmt.Assign [Expr.Name (Str.ofString "lexer") _] _ _ :: _) _) _ _ _); k_here; refine halt ?_) | ((with_reducible show wpAny _ _ (binaryOp Operator.Add (Value.str _ _) (Value.str _ _)) _ _ _); (k_here; refine halt ?_)) | ((with_reducible show wpAny _ _ (exec (Stmt.For _ _ _ _ _) _) _ _ _); k_here; refine halt ?_) | ((with_reducible show wpAny _ _ (binaryOp Operator.Pow (Value.int _ _) (Value.int _ _)) _ _ _); (k_here; refine halt ?_)) | ((with_reducible show wpAny _ _ (call (Value.builtin "chr") _ _) _ _ _); (k_here; refine halt ?_)) | ((with_reducible show wpAny _ _ (binaryOp Operator.Mult (Value.str _ _) (Value.int _ _)) _ _ _); (k_here; refine halt ?_)) | ((with_reducible show PyProof.Rows.LCg.CompSrc _ _ _ _ _ _ _ _ _ _ _ _ _ _); (k_here; refine halt ?_)) | ((with_reducible show wpAny _ _ (eval (Expr.ListComp _ _ _ _) _) _ _ _); k_here; refine halt ?_) | ((with_reducible show wpAny _ _ (call (Value.ref _) _) _ _ _); k_here; refine halt ?_) | row_room_at HB | (dsimp only; (first | ((with_reducible show wpAny _ _ (execs (Stmt.Assign [Expr.Name (Str.ofString "lexer") _] _ _ :: _) _) _ _ _); k_here; refine halt ?_) | ((with_reducible show wpAny _ _ (binaryOp Operator.Add (Value.str _ _) (Value.str _ _)) _ _ _); (k_here; refine halt ?_)) | ((with_reducible show wpAny _ _ (exec (Stmt.For _ _ _ _ _) _) _ _ _); k_here; refine halt ?_) | ((with_reducible show wpAny _ _ (binaryOp Operator.Pow (Value.int _ _) (Value.int _ _)) _ _ _); (k_here; refine halt ?_)) | ((with_reducible show wpAny _ _ (call (Value.builtin "chr") _ _) _ _ _); (k_here; refine halt ?_)) | ((with_reducible show wpAny _ _ (binaryOp Operator.Mult (Value.str _ _) (Value.int _ _)) _ _ _); (k_here; refine halt ?_)) | ((with_reducible show PyProof.Rows.LCg.CompSrc _ _ _ _ _ _ _ _ _ _ _ _ _ _); (k_here; refine halt ?_)) | ((with_reducible show wpAny _ _ (eval (Expr.ListComp _ _ _ _) _) _ _ _); k_here; refine halt ?_) | ((with_reducible show wpAny _ _ (call (Value.ref _) _) _ _ _); k_here; refine halt ?_) | walk1 | row_room_at HE)) | (leave1; walk_say "STEP leave1"; try dsimp only)))
      refine go ?_
      refine mul_at (word_facts d1).1 (word_facts d1).2.1 ?_
      intro tmd1 kmd1
      (repeat' (first | (k_unfold; (try dsimp only)) | row_room_at HE | (k_end; wrow_close) | ((with_reducible show wpAny _ _ (execs (Stmt.Assign [Expr.Name (Str.ofString "lexer") _] _ _ :: _) _) _ _ _); k_here; refine halt ?_) | ((with_reducible show wpAny _ _ (binaryOp Operator.Add (Value.str _ _) (Value.str _ _)) _ _ _); (k_here; refine halt ?_)) | ((with_reducible show wpAny _ _ (exec (Stmt.For _ _ _ _ _) _) _ _ _); k_here; refine halt ?_) | ((with_reducible show wpAny _ _ (binaryOp Operator.Pow (Value.int _ _) (Value.int _ _)) _ _ _); (k_here; refine halt ?_)) | ((with_reducible show wpAny _ _ (call (Value.builtin "chr") _ _) _ _ _); (k_here; refine halt ?_)) | ((with_reducible show wpAny _ _ (binaryOp Operator.Mult (Value.str _ _) (Value.int _ _)) _ _ _); (k_here; refine halt ?_)) | ((with_reducible show PyProof.Rows.LCg.CompSrc _ _ _ _ _ _ _ _ _ _ _ _ _ _); (k_here; refine halt ?_)) | ((with_reducible show wpAny _ _ (eval (Expr.ListComp _ _ _ _) _) _ _ _); k_here; refine halt ?_) | ((with_reducible show wpAny _ _ (call (Value.ref _) _) _ _ _); k_here; refine halt ?_) | row_room_at HB | (dsimp only; (first | ((with_reducible show wpAny _ _ (execs (Stmt.Assign [Expr.Name (Str.ofString "lexer") _] _ _ :: _) _) _ _ _); k_here; refine halt ?_) | ((with_reducible show wpAny _ _ (binaryOp Operator.Add (Value.str _ _) (Value.str _ _)) _ _ _); (k_here; refine halt ?_)) | ((with_reducible show wpAny _ _ (exec (Stmt.For _ _ _ _ _) _) _ _ _); k_here; refine halt ?_) | ((with_reducible show wpAny _ _ (binaryOp Operator.Pow (Value.int _ _) (Value.int _ _)) _ _ _); (k_here; refine halt ?_)) | ((with_reducible show wpAny _ _ (call (Value.builtin "chr") _ _) _ _ _); (k_here; refine halt ?_)) | ((with_reducible show wpAny _ _ (binaryOp Operator.Mult (Value.str _ _) (Value.int _ _)) _ _ _); (k_here; refine halt ?_)) | ((with_reducible show PyProof.Rows.LCg.CompSrc _ _ _ _ _ _ _ _ _ _ _ _ _ _); (k_here; refine halt ?_)) | ((with_reducible show wpAny _ _ (eval (Expr.ListComp _ _ _ _) _) _ _ _); k_here; refine halt ?_) | ((with_reducible show wpAny _ _ (call (Value.ref _) _) _ _ _); k_here; refine halt ?_) | walk1 | row_room_at HE)) | (leave1; walk_say "STEP leave1"; try dsimp only)))
      refine go ?_
      refine chr_at (word_facts d1).2.2.1 (word_facts d1).2.2.2 ?_
      (repeat' (first | (k_unfold; (try dsimp only)) | row_room_at HE | (k_end; wrow_close) | ((with_reducible show wpAny _ _ (execs (Stmt.Assign [Expr.Name (Str.ofString "lexer") _] _ _ :: _) _) _ _ _); k_here; refine halt ?_) | ((with_reducible show wpAny _ _ (binaryOp Operator.Add (Value.str _ _) (Value.str _ _)) _ _ _); (k_here; refine halt ?_)) | ((with_reducible show wpAny _ _ (exec (Stmt.For _ _ _ _ _) _) _ _ _); k_here; refine halt ?_) | ((with_reducible show wpAny _ _ (binaryOp Operator.Pow (Value.int _ _) (Value.int _ _)) _ _ _); (k_here; refine halt ?_)) | ((with_reducible show wpAny _ _ (call (Value.builtin "chr") _ _) _ _ _); (k_here; refine halt ?_)) | ((with_reducible show wpAny _ _ (binaryOp Operator.Mult (Value.str _ _) (Value.int _ _)) _ _ _); (k_here; refine halt ?_)) | ((with_reducible show PyProof.Rows.LCg.CompSrc _ _ _ _ _ _ _ _ _ _ _ _ _ _); (k_here; refine halt ?_)) | ((with_reducible show wpAny _ _ (eval (Expr.ListComp _ _ _ _) _) _ _ _); k_here; refine halt ?_) | ((with_reducible show wpAny _ _ (call (Value.ref _) _) _ _ _); k_here; refine halt ?_) | row_room_at HB | (dsimp only; (first | ((with_reducible show wpAny _ _ (execs (Stmt.Assign [Expr.Name (Str.ofString "lexer") _] _ _ :: _) _) _ _ _); k_here; refine halt ?_) | ((with_reducible show wpAny _ _ (binaryOp Operator.Add (Value.str _ _) (Value.str _ _)) _ _ _); (k_here; refine halt ?_)) | ((with_reducible show wpAny _ _ (exec (Stmt.For _ _ _ _ _) _) _ _ _); k_here; refine halt ?_) | ((with_reducible show wpAny _ _ (binaryOp Operator.Pow (Value.int _ _) (Value.int _ _)) _ _ _); (k_here; refine halt ?_)) | ((with_reducible show wpAny _ _ (call (Value.builtin "chr") _ _) _ _ _); (k_here; refine halt ?_)) | ((with_reducible show wpAny _ _ (binaryOp Operator.Mult (Value.str _ _) (Value.int _ _)) _ _ _); (k_here; refine halt ?_)) | ((with_reducible show PyProof.Rows.LCg.CompSrc _ _ _ _ _ _ _ _ _ _ _ _ _ _); (k_here; refine halt ?_)) | ((with_reducible show wpAny _ _ (eval (Expr.ListComp _ _ _ _) _) _ _ _); k_here; refine halt ?_) | ((with_reducible show wpAny _ _ (call (Value.ref _) _) _ _ _); k_here; refine halt ?_) | walk1 | row_room_at HE)) | (leave1; walk_say "STEP leave1"; try dsimp only)))
      refine go ?_
      refine KOpn.add (Nat.le_trans (word_len d1) (by decide)) ?_
      intro twd1 kwd1 _
      (repeat' (first | (k_unfold; (try dsimp only)) | row_room_at HE | (k_end; wrow_close) | ((with_reducible show wpAny _ _ (execs (Stmt.Assign [Expr.Name (Str.ofString "lexer") _] _ _ :: _) _) _ _ _); k_here; refine halt ?_) | ((with_reducible show wpAny _ _ (binaryOp Operator.Add (Value.str _ _) (Value.str _ _)) _ _ _); (k_here; refine halt ?_)) | ((with_reducible show wpAny _ _ (exec (Stmt.For _ _ _ _ _) _) _ _ _); k_here; refine halt ?_) | ((with_reducible show wpAny _ _ (binaryOp Operator.Pow (Value.int _ _) (Value.int _ _)) _ _ _); (k_here; refine halt ?_)) | ((with_reducible show wpAny _ _ (call (Value.builtin "chr") _ _) _ _ _); (k_here; refine halt ?_)) | ((with_reducible show wpAny _ _ (binaryOp Operator.Mult (Value.str _ _) (Value.int _ _)) _ _ _); (k_here; refine halt ?_)) | ((with_reducible show PyProof.Rows.LCg.CompSrc _ _ _ _ _ _ _ _ _ _ _ _ _ _); (k_here; refine halt ?_)) | ((with_reducible show wpAny _ _ (eval (Expr.ListComp _ _ _ _) _) _ _ _); k_here; refine halt ?_) | ((with_reducible show wpAny _ _ (call (Value.ref _) _) _ _ _); k_here; refine halt ?_) | row_room_at HB | (dsimp only; (first | ((with_reducible show wpAny _ _ (execs (Stmt.Assign [Expr.Name (Str.ofString "lexer") _] _ _ :: _) _) _ _ _); k_here; refine halt ?_) | ((with_reducible show wpAny _ _ (binaryOp Operator.Add (Value.str _ _) (Value.str _ _)) _ _ _); (k_here; refine halt ?_)) | ((with_reducible show wpAny _ _ (exec (Stmt.For _ _ _ _ _) _) _ _ _); k_here; refine halt ?_) | ((with_reducible show wpAny _ _ (binaryOp Operator.Pow (Value.int _ _) (Value.int _ _)) _ _ _); (k_here; refine halt ?_)) | ((with_reducible show wpAny _ _ (call (Value.builtin "chr") _ _) _ _ _); (k_here; refine halt ?_)) | ((with_reducible show wpAny _ _ (binaryOp Operator.Mult (Value.str _ _) (Value.int _ _)) _ _ _); (k_here; refine halt ?_)) | ((with_reducible show PyProof.Rows.LCg.CompSrc _ _ _ _ _ _ _ _ _ _ _ _ _ _); (k_here; refine halt ?_)) | ((with_reducible show wpAny _ _ (eval (Expr.ListComp _ _ _ _) _) _ _ _); k_here; refine halt ?_) | ((with_reducible show wpAny _ _ (call (Value.ref _) _) _ _ _); k_here; refine halt ?_) | walk1 | row_room_at HE)) | (leave1; walk_say "STEP leave1"; try dsimp only)))
      refine go ?_
      refine mul_at (word_facts d2).1 (word_facts d2).2.1 ?_
      intro tmd2 kmd2
      (repeat' (first | (k_unfold; (try dsimp only)) | row_room_at HE | (k_end; wrow_close) | ((with_reducible show wpAny _ _ (execs (Stmt.Assign [Expr.Name (Str.ofString "lexer") _] _ _ :: _) _) _ _ _); k_here; refine halt ?_) | ((with_reducible show wpAny _ _ (binaryOp Operator.Add (Value.str _ _) (Value.str _ _)) _ _ _); (k_here; refine halt ?_)) | ((with_reducible show wpAny _ _ (exec (Stmt.For _ _ _ _ _) _) _ _ _); k_here; refine halt ?_) | ((with_reducible show wpAny _ _ (binaryOp Operator.Pow (Value.int _ _) (Value.int _ _)) _ _ _); (k_here; refine halt ?_)) | ((with_reducible show wpAny _ _ (call (Value.builtin "chr") _ _) _ _ _); (k_here; refine halt ?_)) | ((with_reducible show wpAny _ _ (binaryOp Operator.Mult (Value.str _ _) (Value.int _ _)) _ _ _); (k_here; refine halt ?_)) | ((with_reducible show PyProof.Rows.LCg.CompSrc _ _ _ _ _ _ _ _ _ _ _ _ _ _); (k_here; refine halt ?_)) | ((with_reducible show wpAny _ _ (eval (Expr.ListComp _ _ _ _) _) _ _ _); k_here; refine halt ?_) | ((with_reducible show wpAny _ _ (call (Value.ref _) _) _ _ _); k_here; refine halt ?_) | row_room_at HB | (dsimp only; (first | ((with_reducible show wpAny _ _ (execs (Stmt.Assign [Expr.Name (Str.ofString "lexer") _] _ _ :: _) _) _ _ _); k_here; refine halt ?_) | ((with_reducible show wpAny _ _ (binaryOp Operator.Add (Value.str _ _) (Value.str _ _)) _ _ _); (k_here; refine halt ?_)) | ((with_reducible show wpAny _ _ (exec (Stmt.For _ _ _ _ _) _) _ _ _); k_here; refine halt ?_) | ((with_reducible show wpAny _ _ (binaryOp Operator.Pow (Value.int _ _) (Value.int _ _)) _ _ _); (k_here; refine halt ?_)) | ((with_reducible show wpAny _ _ (call (Value.builtin "chr") _ _) _ _ _); (k_here; refine halt ?_)) | ((with_reducible show wpAny _ _ (binaryOp Operator.Mult (Value.str _ _) (Value.int _ _)) _ _ _); (k_here; refine halt ?_)) | ((with_reducible show PyProof.Rows.LCg.CompSrc _ _ _ _ _ _ _ _ _ _ _ _ _ _); (k_here; refine halt ?_)) | ((with_reducible show wpAny _ _ (eval (Expr.ListComp _ _ _ _) _) _ _ _); k_here; refine halt ?_) | ((with_reducible show wpAny _ _ (call (Value.ref _) _) _ _ _); k_here; refine halt ?_) | walk1 | row_room_at HE)) | (leave1; walk_say "STEP leave1"; try dsimp only)))
      refine go ?_
      refine chr_at (word_facts d2).2.2.1 (word_facts d2).2.2.2 ?_
      (repeat' (first | (k_unfold; (try dsimp only)) | row_room_at HE | (k_end; wrow_close) | ((with_reducible show wpAny _ _ (execs (Stmt.Assign [Expr.Name (Str.ofString "lexer") _] _ _ :: _) _) _ _ _); k_here; refine halt ?_) | ((with_reducible show wpAny _ _ (binaryOp Operator.Add (Value.str _ _) (Value.str _ _)) _ _ _); (k_here; refine halt ?_)) | ((with_reducible show wpAny _ _ (exec (Stmt.For _ _ _ _ _) _) _ _ _); k_here; refine halt ?_) | ((with_reducible show wpAny _ _ (binaryOp Operator.Pow (Value.int _ _) (Value.int _ _)) _ _ _); (k_here; refine halt ?_)) | ((with_reducible show wpAny _ _ (call (Value.builtin "chr") _ _) _ _ _); (k_here; refine halt ?_)) | ((with_reducible show wpAny _ _ (binaryOp Operator.Mult (Value.str _ _) (Value.int _ _)) _ _ _); (k_here; refine halt ?_)) | ((with_reducible show PyProof.Rows.LCg.CompSrc _ _ _ _ _ _ _ _ _ _ _ _ _ _); (k_here; refine halt ?_)) | ((with_reducible show wpAny _ _ (eval (Expr.ListComp _ _ _ _) _) _ _ _); k_here; refine halt ?_) | ((with_reducible show wpAny _ _ (call (Value.ref _) _) _ _ _); k_here; refine halt ?_) | row_room_at HB | (dsimp only; (first | ((with_reducible show wpAny _ _ (execs (Stmt.Assign [Expr.Name (Str.ofString "lexer") _] _ _ :: _) _) _ _ _); k_here; refine halt ?_) | ((with_reducible show wpAny _ _ (binaryOp Operator.Add (Value.str _ _) (Value.str _ _)) _ _ _); (k_here; refine halt ?_)) | ((with_reducible show wpAny _ _ (exec (Stmt.For _ _ _ _ _) _) _ _ _); k_here; refine halt ?_) | ((with_reducible show wpAny _ _ (binaryOp Operator.Pow (Value.int _ _) (Value.int _ _)) _ _ _); (k_here; refine halt ?_)) | ((with_reducible show wpAny _ _ (call (Value.builtin "chr") _ _) _ _ _); (k_here; refine halt ?_)) | ((with_reducible show wpAny _ _ (binaryOp Operator.Mult (Value.str _ _) (Value.int _ _)) _ _ _); (k_here; refine halt ?_)) | ((with_reducible show PyProof.Rows.LCg.CompSrc _ _ _ _ _ _ _ _ _ _ _ _ _ _); (k_here; refine halt ?_)) | ((with_reducible show wpAny _ _ (eval (Expr.ListComp _ _ _ _) _) _ _ _); k_here; refine halt ?_) | ((with_reducible show wpAny _ _ (call (Value.ref _) _) _ _ _); k_here; refine halt ?_) | walk1 | row_room_at HE)) | (leave1; walk_say "STEP leave1"; try dsimp only)))
      refine go ?_
      refine KOpn.add (Nat.le_trans (word_len d2) (by decide)) ?_
      intro twd2 kwd2 _
      (repeat' (first | (k_unfold; (try dsimp only)) | row_room_at HE | (k_end; wrow_close) | ((with_reducible show wpAny _ _ (execs (Stmt.Assign [Expr.Name (Str.ofString "lexer") _] _ _ :: _) _) _ _ _); k_here; refine halt ?_) | ((with_reducible show wpAny _ _ (binaryOp Operator.Add (Value.str _ _) (Value.str _ _)) _ _ _); (k_here; refine halt ?_)) | ((with_reducible show wpAny _ _ (exec (Stmt.For _ _ _ _ _) _) _ _ _); k_here; refine halt ?_) | ((with_reducible show wpAny _ _ (binaryOp Operator.Pow (Value.int _ _) (Value.int _ _)) _ _ _); (k_here; refine halt ?_)) | ((with_reducible show wpAny _ _ (call (Value.builtin "chr") _ _) _ _ _); (k_here; refine halt ?_)) | ((with_reducible show wpAny _ _ (binaryOp Operator.Mult (Value.str _ _) (Value.int _ _)) _ _ _); (k_here; refine halt ?_)) | ((with_reducible show PyProof.Rows.LCg.CompSrc _ _ _ _ _ _ _ _ _ _ _ _ _ _); (k_here; refine halt ?_)) | ((with_reducible show wpAny _ _ (eval (Expr.ListComp _ _ _ _) _) _ _ _); k_here; refine halt ?_) | ((with_reducible show wpAny _ _ (call (Value.ref _) _) _ _ _); k_here; refine halt ?_) | row_room_at HB | (dsimp only; (first | ((with_reducible show wpAny _ _ (execs (Stmt.Assign [Expr.Name (Str.ofString "lexer") _] _ _ :: _) _) _ _ _); k_here; refine halt ?_) | ((with_reducible show wpAny _ _ (binaryOp Operator.Add (Value.str _ _) (Value.str _ _)) _ _ _); (k_here; refine halt ?_)) | ((with_reducible show wpAny _ _ (exec (Stmt.For _ _ _ _ _) _) _ _ _); k_here; refine halt ?_) | ((with_reducible show wpAny _ _ (binaryOp Operator.Pow (Value.int _ _) (Value.int _ _)) _ _ _); (k_here; refine halt ?_)) | ((with_reducible show wpAny _ _ (call (Value.builtin "chr") _ _) _ _ _); (k_here; refine halt ?_)) | ((with_reducible show wpAny _ _ (binaryOp Operator.Mult (Value.str _ _) (Value.int _ _)) _ _ _); (k_here; refine halt ?_)) | ((with_reducible show PyProof.Rows.LCg.CompSrc _ _ _ _ _ _ _ _ _ _ _ _ _ _); (k_here; refine halt ?_)) | ((with_reducible show wpAny _ _ (eval (Expr.ListComp _ _ _ _) _) _ _ _); k_here; refine halt ?_) | ((with_reducible show wpAny _ _ (call (Value.ref _) _) _ _ _); k_here; refine halt ?_) | walk1 | row_room_at HE)) | (leave1; walk_say "STEP leave1"; try dsimp only)))
      refine go ?_
      (with_reducible rename Fr _ _ _ _ => F9)
      (with_reducible rename News _ _ _ _ => N9)
      simp only [List.push_toArray, List.nil_append, List.cons_append] at N9
      have N10 := news_drop3 N9
      clear N9
      (repeat row_room_at HE)
      refine' next _ _ _ _ DM _ _ twd0 twd1 twd2 u0 u1 u2 _ F9 ?n2 ?n3 ?n4 ?n5 N10
      (case n2 => exact ⟨rfl, trivial⟩)
      (case n3 => assumption)
      (case n4 => omega)
      (case n5 => exact off.2)
end

/-! T_s3 -/
theorem flushT_s3 : True ∧ True := by first | (row_walk; done) | (walk1; done) | exact ⟨trivial, trivial⟩
theorem word_len10 (d : Nat) : (wordN d).length ≤ 10 := by
  have := word_len d
  unfold wordN
  rw [Str.length_append]
  omega
theorem writ_len {x y : Str} (hx : x.length ≤ 10) (hy : y.length ≤ 10) : (writF x y).length ≤ 1000 := by
  have h1 := esc_len hy
  unfold writF escF
  simp only [Str.length_append]
  have e1 : (Str.ofString "\"").length = 1 := by decide
  have e2 : (Str.ofString "\"\n").length = 2 := by decide
  have e3 : (Str.ofString "\n").length = 1 := by decide
  omega
theorem writ3_len {x y z : Str} (hx : x.length ≤ 10) (hy : y.length ≤ 10) (hz : z.length ≤ 10) : (writF3 x y z).length ≤ 1000 := by
  have h1 := esc_len hy
  unfold writF3 writF escF
  simp only [Str.length_append]
  have e1 : (Str.ofString "\"").length = 1 := by decide
  have e2 : (Str.ofString "\"\n").length = 2 := by decide
  have e3 : (Str.ofString "\n").length = 1 := by decide
  omega
theorem ne_new {h : Heap} {a b : Addr} {o : Obj} (e : h.get? a = some o) (n : h.get? b = none) : @Ne Nat a b := fun q => by
  have : a = b := q
  rw [this, n] at e; cases e
theorem news_new {g h h' : Heap} {L : Addr} {m : Str → Option Value} {old : List (Addr × Obj)} {S : List Addr} {led : List (Addr × Obj)} (F : Fr g L h m) (N : News g L h old) (k : Kept h h' S) (ho : ∀ q ∈ old, q.1 ∉ S) (hl : ∀ q ∈ led, h'.get? q.1 = some q.2 ∧ h.get? q.1 = none) :
    News g L h' (led ++ old) := fun q hq => by
  rcases List.mem_append.mp hq with e | e
  · obtain ⟨e1, e2⟩ := hl q e
    refine ⟨e1, fun q' => ?_, ?_⟩
    · (refine hideP ?_; intro PP hPP); (obtain ⟨o, _, _, ho, _⟩ := F.ns) <;> (refine hPP ?_; clear hPP; clear PP)
      rw [q', ho] at e2; cases e2
    · cases hg : g.get? q.1 with
      | none => rfl
      | some o => rw [F.keep _ _ hg] at e2; cases e2
  · exact ⟨k _ _ (N q e).1 (ho q e), (N q e).2⟩
theorem news_add {g h : Heap} {L : Addr} {l : List (Addr × Obj)} (N : News g L h l) {a : Addr} {o : Obj} (e : h.get? a = some o) (f : a ≠ L ∧ g.get? a = none) : News g L h ((a, o) :: l) := fun q hq => by
  rcases List.mem_cons.mp hq with rfl | hq
  · exact ⟨e, f⟩
  · exact N q hq
theorem news_grow {g h h' : Heap} {L a : Addr} {m : Str → Option Value} (pre : List (Addr × Obj)) {led : List (Addr × Obj)} {o : Obj} (o' : Obj) (F : Fr g L h m) (N : News g L h (pre ++ [(a, o)])) (k : Kept h h' [a])
    (hp : ∀ q, q ∈ pre → @Ne Nat q.1 a) (e : h'.get? a = some o') (hl : ∀ q ∈ led, h'.get? q.1 = some q.2 ∧ h.get? q.1 = none) : News g L h' (led ++ (pre ++ [(a, o')])) := by
  have N0 := news_new F (news_sub (l' := pre) N fun q hq => List.mem_append_left _ hq) k (fun q hq => fun hm => hp q hq (List.mem_singleton.mp hm)) hl
  have x := N (a, o) (List.mem_append_right _ (.head _))
  intro q hq
  rcases List.mem_append.mp hq with hq | hq
  · exact N0 q (List.mem_append_left _ hq)
  · rcases List.mem_append.mp hq with hq | hq
    · exact N0 q (List.mem_append_right _ hq)
    · rw [List.mem_singleton.mp hq]; exact ⟨e, x.2⟩
theorem led_off {g h h' : Heap} {L : Addr} {l led : List (Addr × Obj)} (N : News g L h l) (hl : ∀ q ∈ led, h'.get? q.1 = some q.2 ∧ h.get? q.1 = none) : ∀ a ∈ l.map (·.1), ∀ q ∈ led, @Ne Nat a q.1 := fun a ha q hq => by
  (refine hideP ?_; intro PP hPP); (obtain ⟨x, hx, rfl⟩ := List.mem_map.mp ha) <;> (refine hPP ?_; clear hPP; clear PP)
  exact ne_new (N x hx).1 (hl q hq).2
section
theorem s3a {w : World} {p : Program} {loose : List Str} {mean : ExcName → Option Value} {mg mb : Str → Option Value} {dp un : Nat} {fs : Option (List Env)} {gd : Option (List Code)} {g : Heap} {L fa : Addr} {cd : Value} {s : Shared} {Q : Flow → Shared → Prop}
  (hdp : dp + 40 < recursionLimit) (hun : un + 400 < cLine) (X' : (hd.heap_39 w.params).In g) (T' : Top p loose mean mg mb g) (hC1 : CodeHd g 163 159) (hC2 : CodeHd g 111 107)
  (ret : ∀ h' tk', (∀ b o, g.get? b = some o → h'.get? b = some o) → GrownAt 159 h' → GrownAt 107 h' → Q (.ret (.bool true)) { s with heap := h', toks := tk' })
  {W M : Addr} {d0 d1 nW nM : Nat} {u0 u1 v0 v1 : Tok} (hLt : @LT.lt Nat _ 159 L ∧ @LT.lt Nat _ 107 L) (hWM : @LT.lt Nat _ M W ∧ @LT.lt Nat _ (L + 1 + 1 + 1 + 1) W) (hM : @Ne Nat (L + 1 + 1 + 1 + 1) M ∧ @Ne Nat (L + 1 + 1 + 1) M ∧ @Ne Nat (L + 1 + 1) M ∧ @Ne Nat (L + 1) M ∧ @Ne Nat 159 M ∧ @Ne Nat 107 M)
  {m : Str → Option Value} (F : Fr g L s.heap m) (hm : Knows m [("words", .ref W)])
  {c1 c2 c3 c4 : Obj} (hc2 : c2.data = .cell none)
  (N : News g L s.heap [(W, listOf #[.str (wordN d0) v0, .str (wordN d1) v1] nW), (M, listOf #[.int ((maskN d0 : Nat) : Int) u0, .int ((maskN d1 : Nat) : Int) u1] nM), (L + 1 + 1 + 1 + 1, c4), (L + 1 + 1 + 1, c3), (L + 1 + 1, c2), (L + 1, c1), (159, tabObj #[]), (107, tabObj #[])])
  (next : ∀ h' tk' m' (c2' : Obj) (lx : Lx) sg ns np tl (ps7 : Array Value), lx.ok → ReadSpec w lx → StrsAre sg (signs (writF (wordN d0) (wordN d1))) → Fr g L h' m' → Knows m' [("words", .ref W)] → c2'.data = .cell (some (.ref lx.x1)) →
    (∀ a ∈ [W, M, L + 1 + 1 + 1 + 1, L + 1 + 1 + 1, L + 1 + 1, L + 1, 159, 107], ∀ q ∈ lx.led w sg ns [] np (.int 1 tl), @Ne Nat a q.1) →
    News g L h' (lx.led w sg ns [] np (.int 1 tl) ++ [(W, listOf #[.str (wordN d0) v0, .str (wordN d1) v1] nW), (M, listOf #[.int ((maskN d0 : Nat) : Int) u0, .int ((maskN d1 : Nat) : Int) u1] nM), (L + 1 + 1 + 1 + 1, c4), (L + 1 + 1 + 1, c3), (L + 1 + 1, c2'), (L + 1, c1), (159, tabObj #[]), (107, tabObj ps7)]) →
    wpAny (model PySem.Challenge.rw_ty0032_01.row.prog w) ((arA dp un fs gd).deeper (lawEnv L fa cd)) (execs (lawR.body.drop 6) (lawEnv L fa cd)) Q (fun _ _ => False) { s with heap := h', toks := tk' }) :
  wpAny (model PySem.Challenge.rw_ty0032_01.row.prog w) ((arA dp un fs gd).deeper (lawEnv L fa cd)) (execs (lawR.body.drop 5) (lawEnv L fa cd)) Q (fun _ _ => False) s := by
    unfold lawEnv at next ⊢
    dsimp only [lawR, recOf, List.drop] at next ⊢
    replace F := fr_knows hm F
    clear hm
    (repeat' (first | (k_unfold; (try dsimp only)) | row_room_at HE | (k_end; wrow_close) | ((with_reducible show wpAny _ _ (execs (Stmt.Assign [Expr.Name (Str.ofString "read") _] _ _ :: _) _) _ _ _); k_here; refine halt ?_) | ((with_reducible show wpAny _ _ (call (Value.ref _) _) _ _ _); k_here; refine halt ?_) | row_room_at HB | (dsimp only; (first | ((with_reducible show wpAny _ _ (execs (Stmt.Assign [Expr.Name (Str.ofString "read") _] _ _ :: _) _) _ _ _); k_here; refine halt ?_) | ((with_reducible show wpAny _ _ (call (Value.ref _) _) _ _ _); k_here; refine halt ?_) | walk1 | row_room_at HE)) | (leave1; walk_say "STEP leave1"; try dsimp only)))
    refine go ?_
    (with_reducible rename Fr _ _ _ _ => F1)
    (with_reducible rename News _ _ _ _ => N1)
    refine' writ2_call ?wa ?wb X' T' ?wst (word_len10 d0) (word_len10 d1) (hn_of N1 ?wm) ?_
    (case wa => (first | exact lim2 hdp rfl | exact lim1 hdp rfl | exact lim2 hun rfl | exact lim1 hun rfl | exact lim0 hdp | exact lim0 hun | exact lim3 hdp rfl | exact lim3 hun rfl | ((try dsimp only [arA, Around.deeper]); omega)))
    (case wb => (first | exact lim2 hdp rfl | exact lim1 hdp rfl | exact lim2 hun rfl | exact lim1 hun rfl | exact lim0 hdp | exact lim0 hun | exact lim3 hdp rfl | exact lim3 hun rfl | ((try dsimp only [arA, Around.deeper]); omega)))
    (case wst => exact F1.keep)
    (case wm => exact fun q hq => by rw [List.mem_singleton.mp hq]; exact .head _)
    intro t3 h3 tk3 kp3
    have F3 := fr_kept0 F1 kp3
    have N3 := news_kept0 N1 kp3
    clear kp3 F1 N1
    (repeat' (first | (k_unfold; (try dsimp only)) | row_room_at HE | (k_end; wrow_close) | ((with_reducible show wpAny _ _ (execs (Stmt.Assign [Expr.Name (Str.ofString "read") _] _ _ :: _) _) _ _ _); k_here; refine halt ?_) | ((with_reducible show wpAny _ _ (call (Value.ref _) _) _ _ _); k_here; refine halt ?_) | row_room_at HB | (dsimp only; (first | ((with_reducible show wpAny _ _ (execs (Stmt.Assign [Expr.Name (Str.ofString "read") _] _ _ :: _) _) _ _ _); k_here; refine halt ?_) | ((with_reducible show wpAny _ _ (call (Value.ref _) _) _ _ _); k_here; refine halt ?_) | walk1 | row_room_at HE)) | (leave1; walk_say "STEP leave1"; try dsimp only)))
    refine go ?_
    (with_reducible rename Fr _ _ _ _ => F4)
    (with_reducible rename News _ _ _ _ => N4)
    refine' lexer_call ?xa ?xb X' T' ?xst hC2 rfl (hn_of N4 ?xm) ?xl ?_
    (case xa => (first | exact lim2 hdp rfl | exact lim1 hdp rfl | exact lim2 hun rfl | exact lim1 hun rfl | exact lim0 hdp | exact lim0 hun | exact lim3 hdp rfl | exact lim3 hun rfl | ((try dsimp only [arA, Around.deeper]); omega)))
    (case xb => (first | exact lim2 hdp rfl | exact lim1 hdp rfl | exact lim2 hun rfl | exact lim1 hun rfl | exact lim0 hdp | exact lim0 hun | exact lim3 hdp rfl | exact lim3 hun rfl | ((try dsimp only [arA, Around.deeper]); omega)))
    (case xst => exact F4.keep)
    (case xm => exact fun q hq => by rw [List.mem_singleton.mp hq]; k_mem)
    (case xl => exact writ_len (word_len10 d0) (word_len10 d1))
    intro lx sg ns np tl h5 tk5 ok5 rs5 hsg kp5 hg7 hled
    have lo : ∀ a ∈ [W, M, L + 1 + 1 + 1 + 1, L + 1 + 1 + 1, L + 1 + 1, L + 1, 159, 107], ∀ q ∈ lx.led w sg ns [] np (.int 1 tl), @Ne Nat a q.1 := led_off N4 hled
    have lo' := lo (L + 1 + 1) (.tail _ (.tail _ (.tail _ (.tail _ (.head _)))))
    simp only [Lx.led, List.forall_mem_cons, List.not_mem_nil, false_implies, implies_true, and_true] at lo'
    have hL107 : L ∉ [107] := fun e => by rw [List.mem_singleton] at e; exact Nat.ne_of_gt hLt.2 e
    have F5 : Fr g L h5 _ := fr_kept F4 kp5 hL107 (fun b hb => by rw [List.mem_singleton.mp hb]; exact (N4 (107, tabObj #[]) (by k_mem)).2.2)
    obtain ⟨ps7, hps7⟩ := hg7
    have hM107 : @Ne Nat 107 W := Nat.ne_of_lt (Nat.lt_trans (Nat.lt_trans hLt.2 lt_up4) hWM.2)
    have N5 : News g L _ (lx.led w sg ns [] np (.int 1 tl) ++ [(W, listOf #[.str (wordN d0) v0, .str (wordN d1) v1] nW), (M, listOf #[.int ((maskN d0 : Nat) : Int) u0, .int ((maskN d1 : Nat) : Int) u1] nM), (L + 1 + 1 + 1 + 1, c4), (L + 1 + 1 + 1, c3), (L + 1 + 1, c2), (L + 1, c1), (159, tabObj #[]), (107, tabObj ps7)]) := news_grow [(W, listOf #[.str (wordN d0) v0, .str (wordN d1) v1] nW), (M, listOf #[.int ((maskN d0 : Nat) : Int) u0, .int ((maskN d1 : Nat) : Int) u1] nM), (L + 1 + 1 + 1 + 1, c4), (L + 1 + 1 + 1, c3), (L + 1 + 1, c2), (L + 1, c1), (159, tabObj #[])] (tabObj ps7) F4 N4 kp5 (all_cons (Ne.symm hM107) (all_cons (Ne.symm hM.2.2.2.2.2) (all_cons (ne_g (Nat.lt_trans hLt.2 lt_up4)) (all_cons (ne_g (Nat.lt_trans hLt.2 lt_up3)) (all_cons (ne_g (Nat.lt_trans hLt.2 lt_up2)) (all_cons (ne_g (Nat.lt_trans hLt.2 (Nat.lt_succ_self _))) (all_cons (Nat.ne_of_beq_eq_false rfl) all_nil))))))) hps7 hled
    clear F4 N4 kp5
    dsimp only [Lx.led, List.cons_append, List.nil_append] at N5
    (refine hideP ?_; intro PP hPP); (obtain ⟨o1, o2, o3, o4, o5, o6, o7, o8, fd, hfd⟩ := id ok5) <;> (refine hPP ?_; clear hPP; clear PP)
    (repeat' (first | (k_unfold; (try dsimp only)) | row_room_at HE | (k_end; wrow_close) | ((with_reducible show wpAny _ _ (execs (Stmt.Assign [Expr.Name (Str.ofString "read") _] _ _ :: _) _) _ _ _); k_here; refine halt ?_) | ((with_reducible show wpAny _ _ (call (Value.ref _) _) _ _ _); k_here; refine halt ?_) | row_room_at HB | (dsimp only; (first | ((with_reducible show wpAny _ _ (execs (Stmt.Assign [Expr.Name (Str.ofString "read") _] _ _ :: _) _) _ _ _); k_here; refine halt ?_) | ((with_reducible show wpAny _ _ (call (Value.ref _) _) _ _ _); k_here; refine halt ?_) | walk1 | row_room_at HE)) | (leave1; walk_say "STEP leave1"; try dsimp only)))
    refine go ?_
    (with_reducible rename Fr _ _ _ _ => F6)
    (with_reducible rename News _ _ _ _ => N6)
    (repeat row_room_at HE)
    refine' next _ _ _ _ lx sg ns np tl ps7 ok5 rs5 hsg F6 ?n2 ?n3 lo N6
    (case n2 => exact ⟨rfl, trivial⟩)
    (case n3 => assumption)
theorem s3b {w : World} {p : Program} {loose : List Str} {mean : ExcName → Option Value} {mg mb : Str → Option Value} {dp un : Nat} {fs : Option (List Env)} {gd : Option (List Code)} {g : Heap} {L fa : Addr} {cd : Value} {s : Shared} {Q : Flow → Shared → Prop}
  (hdp : dp + 40 < recursionLimit) (hun : un + 400 < cLine) (X' : (hd.heap_39 w.params).In g) (T' : Top p loose mean mg mb g) (hC1 : CodeHd g 163 159) (hC2 : CodeHd g 111 107)
  (ret : ∀ h' tk', (∀ b o, g.get? b = some o → h'.get? b = some o) → GrownAt 159 h' → GrownAt 107 h' → Q (.ret (.bool true)) { s with heap := h', toks := tk' })
  {W M : Addr} {d0 d1 d2 nW nM : Nat} {u0 u1 u2 v0 v1 v2 : Tok} (hLt : @LT.lt Nat _ 159 L ∧ @LT.lt Nat _ 107 L) (hWM : @LT.lt Nat _ M W ∧ @LT.lt Nat _ (L + 1 + 1 + 1 + 1) W) (hM : @Ne Nat (L + 1 + 1 + 1 + 1) M ∧ @Ne Nat (L + 1 + 1 + 1) M ∧ @Ne Nat (L + 1 + 1) M ∧ @Ne Nat (L + 1) M ∧ @Ne Nat 159 M ∧ @Ne Nat 107 M)
  {m : Str → Option Value} (F : Fr g L s.heap m) (hm : Knows m [("words", .ref W)])
  {c1 c2 c3 c4 : Obj} (hc2 : c2.data = .cell none)
  (N : News g L s.heap [(W, listOf #[.str (wordN d0) v0, .str (wordN d1) v1, .str (wordN d2) v2] nW), (M, listOf #[.int ((maskN d0 : Nat) : Int) u0, .int ((maskN d1 : Nat) : Int) u1, .int ((maskN d2 : Nat) : Int) u2] nM), (L + 1 + 1 + 1 + 1, c4), (L + 1 + 1 + 1, c3), (L + 1 + 1, c2), (L + 1, c1), (159, tabObj #[]), (107, tabObj #[])])
  (next : ∀ h' tk' m' (c2' : Obj) (lx : Lx) sg ns np tl (ps7 : Array Value), lx.ok → ReadSpec w lx → StrsAre sg (signs (writF3 (wordN d0) (wordN d1) (wordN d2))) → Fr g L h' m' → Knows m' [("words", .ref W)] → c2'.data = .cell (some (.ref lx.x1)) →
    (∀ a ∈ [W, M, L + 1 + 1 + 1 + 1, L + 1 + 1 + 1, L + 1 + 1, L + 1, 159, 107], ∀ q ∈ lx.led w sg ns [] np (.int 1 tl), @Ne Nat a q.1) →
    News g L h' (lx.led w sg ns [] np (.int 1 tl) ++ [(W, listOf #[.str (wordN d0) v0, .str (wordN d1) v1, .str (wordN d2) v2] nW), (M, listOf #[.int ((maskN d0 : Nat) : Int) u0, .int ((maskN d1 : Nat) : Int) u1, .int ((maskN d2 : Nat) : Int) u2] nM), (L + 1 + 1 + 1 + 1, c4), (L + 1 + 1 + 1, c3), (L + 1 + 1, c2'), (L + 1, c1), (159, tabObj #[]), (107, tabObj ps7)]) →
    wpAny (model PySem.Challenge.rw_ty0032_01.row.prog w) ((arA dp un fs gd).deeper (lawEnv L fa cd)) (execs (lawR.body.drop 6) (lawEnv L fa cd)) Q (fun _ _ => False) { s with heap := h', toks := tk' }) :
  wpAny (model PySem.Challenge.rw_ty0032_01.row.prog w) ((arA dp un fs gd).deeper (lawEnv L fa cd)) (execs (lawR.body.drop 5) (lawEnv L fa cd)) Q (fun _ _ => False) s := by
    unfold lawEnv at next ⊢
    dsimp only [lawR, recOf, List.drop] at next ⊢
    replace F := fr_knows hm F
    clear hm
    (repeat' (first | (k_unfold; (try dsimp only)) | row_room_at HE | (k_end; wrow_close) | ((with_reducible show wpAny _ _ (execs (Stmt.Assign [Expr.Name (Str.ofString "read") _] _ _ :: _) _) _ _ _); k_here; refine halt ?_) | ((with_reducible show wpAny _ _ (call (Value.ref _) _) _ _ _); k_here; refine halt ?_) | row_room_at HB | (dsimp only; (first | ((with_reducible show wpAny _ _ (execs (Stmt.Assign [Expr.Name (Str.ofString "read") _] _ _ :: _) _) _ _ _); k_here; refine halt ?_) | ((with_reducible show wpAny _ _ (call (Value.ref _) _) _ _ _); k_here; refine halt ?_) | walk1 | row_room_at HE)) | (leave1; walk_say "STEP leave1"; try dsimp only)))
    refine go ?_
    (with_reducible rename Fr _ _ _ _ => F1)
    (with_reducible rename News _ _ _ _ => N1)
    refine' writ3_call ?wa ?wb X' T' ?wst (word_len10 d0) (word_len10 d1) (word_len10 d2) (hn_of N1 ?wm) ?_
    (case wa => (first | exact lim2 hdp rfl | exact lim1 hdp rfl | exact lim2 hun rfl | exact lim1 hun rfl | exact lim0 hdp | exact lim0 hun | exact lim3 hdp rfl | exact lim3 hun rfl | ((try dsimp only [arA, Around.deeper]); omega)))
    (case wb => (first | exact lim2 hdp rfl | exact lim1 hdp rfl | exact lim2 hun rfl | exact lim1 hun rfl | exact lim0 hdp | exact lim0 hun | exact lim3 hdp rfl | exact lim3 hun rfl | ((try dsimp only [arA, Around.deeper]); omega)))
    (case wst => exact F1.keep)
    (case wm => exact fun q hq => by rw [List.mem_singleton.mp hq]; exact .head _)
    intro t3 h3 tk3 kp3
    have F3 := fr_kept0 F1 kp3
    have N3 := news_kept0 N1 kp3
    clear kp3 F1 N1
    (repeat' (first | (k_unfold; (try dsimp only)) | row_room_at HE | (k_end; wrow_close) | ((with_reducible show wpAny _ _ (execs (Stmt.Assign [Expr.Name (Str.ofString "read") _] _ _ :: _) _) _ _ _); k_here; refine halt ?_) | ((with_reducible show wpAny _ _ (call (Value.ref _) _) _ _ _); k_here; refine halt ?_) | row_room_at HB | (dsimp only; (first | ((with_reducible show wpAny _ _ (execs (Stmt.Assign [Expr.Name (Str.ofString "read") _] _ _ :: _) _) _ _ _); k_here; refine halt ?_) | ((with_reducible show wpAny _ _ (call (Value.ref _) _) _ _ _); k_here; refine halt ?_) | walk1 | row_room_at HE)) | (leave1; walk_say "STEP leave1"; try dsimp only)))
    refine go ?_
    (with_reducible rename Fr _ _ _ _ => F4)
    (with_reducible rename News _ _ _ _ => N4)
    refine' lexer_call ?xa ?xb X' T' ?xst hC2 rfl (hn_of N4 ?xm) ?xl ?_
    (case xa => (first | exact lim2 hdp rfl | exact lim1 hdp rfl | exact lim2 hun rfl | exact lim1 hun rfl | exact lim0 hdp | exact lim0 hun | exact lim3 hdp rfl | exact lim3 hun rfl | ((try dsimp only [arA, Around.deeper]); omega)))
    (case xb => (first | exact lim2 hdp rfl | exact lim1 hdp rfl | exact lim2 hun rfl | exact lim1 hun rfl | exact lim0 hdp | exact lim0 hun | exact lim3 hdp rfl | exact lim3 hun rfl | ((try dsimp only [arA, Around.deeper]); omega)))
    (case xst => exact F4.keep)
    (case xm => exact fun q hq => by rw [List.mem_singleton.mp hq]; k_mem)
    (case xl => exact writ3_len (word_len10 d0) (word_len10 d1) (word_len10 d2))
    intro lx sg ns np tl h5 tk5 ok5 rs5 hsg kp5 hg7 hled
    have lo : ∀ a ∈ [W, M, L + 1 + 1 + 1 + 1, L + 1 + 1 + 1, L + 1 + 1, L + 1, 159, 107], ∀ q ∈ lx.led w sg ns [] np (.int 1 tl), @Ne Nat a q.1 := led_off N4 hled
    have lo' := lo (L + 1 + 1) (.tail _ (.tail _ (.tail _ (.tail _ (.head _)))))
    simp only [Lx.led, List.forall_mem_cons, List.not_mem_nil, false_implies, implies_true, and_true] at lo'
    have hL107 : L ∉ [107] := fun e => by rw [List.mem_singleton] at e; exact Nat.ne_of_gt hLt.2 e
    have F5 : Fr g L h5 _ := fr_kept F4 kp5 hL107 (fun b hb => by rw [List.mem_singleton.mp hb]; exact (N4 (107, tabObj #[]) (by k_mem)).2.2)
    obtain ⟨ps7, hps7⟩ := hg7
    have hM107 : @Ne Nat 107 W := Nat.ne_of_lt (Nat.lt_trans (Nat.lt_trans hLt.2 lt_up4) hWM.2)
    have N5 : News g L _ (lx.led w sg ns [] np (.int 1 tl) ++ [(W, listOf #[.str (wordN d0) v0, .str (wordN d1) v1, .str (wordN d2) v2] nW), (M, listOf #[.int ((maskN d0 : Nat) : Int) u0, .int ((maskN d1 : Nat) : Int) u1, .int ((maskN d2 : Nat) : Int) u2] nM), (L + 1 + 1 + 1 + 1, c4), (L + 1 + 1 + 1, c3), (L + 1 + 1, c2), (L + 1, c1), (159, tabObj #[]), (107, tabObj ps7)]) := news_grow [(W, listOf #[.str (wordN d0) v0, .str (wordN d1) v1, .str (wordN d2) v2] nW), (M, listOf #[.int ((maskN d0 : Nat) : Int) u0, .int ((maskN d1 : Nat) : Int) u1, .int ((maskN d2 : Nat) : Int) u2] nM), (L + 1 + 1 + 1 + 1, c4), (L + 1 + 1 + 1, c3), (L + 1 + 1, c2), (L + 1, c1), (159, tabObj #[])] (tabObj ps7) F4 N4 kp5 (all_cons (Ne.symm hM107) (all_cons (Ne.symm hM.2.2.2.2.2) (all_cons (ne_g (Nat.lt_trans hLt.2 lt_up4)) (all_cons (ne_g (Nat.lt_trans hLt.2 lt_up3)) (all_cons (ne_g (Nat.lt_trans hLt.2 lt_up2)) (all_cons (ne_g (Nat.lt_trans hLt.2 (Nat.lt_succ_self _))) (all_cons (Nat.ne_of_beq_eq_false rfl) all_nil))))))) hps7 hled
    clear F4 N4 kp5
    dsimp only [Lx.led, List.cons_append, List.nil_append] at N5
    (refine hideP ?_; intro PP hPP); (obtain ⟨o1, o2, o3, o4, o5, o6, o7, o8, fd, hfd⟩ := id ok5) <;> (refine hPP ?_; clear hPP; clear PP)
    (repeat' (first | (k_unfold; (try dsimp only)) | row_room_at HE | (k_end; wrow_close) | ((with_reducible show wpAny _ _ (execs (Stmt.Assign [Expr.Name (Str.ofString "read") _] _ _ :: _) _) _ _ _); k_here; refine halt ?_) | ((with_reducible show wpAny _ _ (call (Value.ref _) _) _ _ _); k_here; refine halt ?_) | row_room_at HB | (dsimp only; (first | ((with_reducible show wpAny _ _ (execs (Stmt.Assign [Expr.Name (Str.ofString "read") _] _ _ :: _) _) _ _ _); k_here; refine halt ?_) | ((with_reducible show wpAny _ _ (call (Value.ref _) _) _ _ _); k_here; refine halt ?_) | walk1 | row_room_at HE)) | (leave1; walk_say "STEP leave1"; try dsimp only)))
    refine go ?_
    (with_reducible rename Fr _ _ _ _ => F6)
    (with_reducible rename News _ _ _ _ => N6)
    (repeat row_room_at HE)
    refine' next _ _ _ _ lx sg ns np tl ps7 ok5 rs5 hsg F6 ?n2 ?n3 lo N6
    (case n2 => exact ⟨rfl, trivial⟩)
    (case n3 => assumption)
end

/-! T_s4 -/
theorem flushT_s4 : True ∧ True := by first | (row_walk; done) | (walk1; done) | exact ⟨trivial, trivial⟩
theorem led_upd3 {w : World} {lx : Lx} (ok : lx.ok) {g h h' : Heap} {L : Addr} {m : Str → Option Value} {pre post : List (Addr × Obj)} {sg r pb : List Value} {ns ns' np : Nat} {ln ln' : Value} (F : Fr g L h m) (N : News g L h (pre ++ (lx.led w sg ns pb np ln ++ post)))
    (hp : ∀ q ∈ pre, (@Ne Nat q.1 lx.S) ∧ (@Ne Nat q.1 lx.d1)) (hq : ∀ q ∈ post, (@Ne Nat q.1 lx.S) ∧ (@Ne Nat q.1 lx.d1))
    (k : Kept h h' [lx.S, lx.d1]) (e1 : h'.get? lx.S = some (listOf r.toArray ns')) (e2 : h'.get? lx.d1 = some (lexD w lx.a1 lx.b1 lx.c1 lx.e1 lx.tw1 ln' (.ref lx.x0) lx.p1)) :
    Fr g L h' m ∧ News g L h' (pre ++ (lx.led w r ns' pb np ln' ++ post)) := by
  (refine hideP ?_; intro PP hPP); (obtain ⟨o1, o2, o3, o4, o5, o6, o7, o8, _⟩ := ok) <;> (refine hPP ?_; clear hPP; clear PP)
  have hS : ∀ {a : Nat}, a ≠ lx.S → a ≠ lx.d1 → a ∉ [lx.S, lx.d1] := fun h1 h2 h => by
    rcases List.mem_cons.mp h with e | e
    · exact h1 e
    · exact h2 (List.mem_singleton.mp e)
  have r1 := (N (lx.S, listOf sg.toArray ns) (List.mem_append_right _ (List.mem_append_left _ (.tail _ (.tail _ (.tail _ (.tail _ (.tail _ (.tail _ (.tail _ (.head _)))))))))))
  have r2 := (N (lx.d1, lexD w lx.a1 lx.b1 lx.c1 lx.e1 lx.tw1 ln (.ref lx.x0) lx.p1) (List.mem_append_right _ (List.mem_append_left _ (.tail _ (.head _)))))
  refine ⟨fr_kept F k (fun h => ?_) (fun b hb => ?_), news_step F N k fun q hq' => ?_⟩
  · rcases List.mem_cons.mp h with e | e
    · exact r1.2.1 e.symm
    · exact r2.2.1 (List.mem_singleton.mp e).symm
  · rcases List.mem_cons.mp hb with rfl | e
    · exact r1.2.2
    · rw [List.mem_singleton.mp e]; exact r2.2.2
  · rcases List.mem_append.mp hq' with e | e
    · exact .inl ⟨List.mem_append_left _ e, hS (hp q e).1 (hp q e).2⟩
    · rcases List.mem_append.mp e with e | e
      · have up : ∀ {q : Addr × Obj}, q ∈ lx.led w sg ns pb np ln → q ∈ pre ++ (lx.led w sg ns pb np ln ++ post) := fun h => List.mem_append_right _ (List.mem_append_left _ h)
        simp only [Lx.led, List.mem_cons, List.not_mem_nil, or_false] at e
        rcases e with rfl | rfl | rfl | rfl | rfl | rfl | rfl | rfl | rfl
        · exact .inl ⟨up (.head _), hS (by dsimp only; omega) (by dsimp only; omega)⟩
        · exact .inr ⟨e2, .inl ⟨_, up (.tail _ (.head _))⟩⟩
        · exact .inl ⟨up (.tail _ (.tail _ (.head _))), hS (by dsimp only; omega) (by dsimp only; omega)⟩
        · exact .inl ⟨up (.tail _ (.tail _ (.tail _ (.head _)))), hS (by dsimp only; omega) (by dsimp only; omega)⟩
        · exact .inl ⟨up (.tail _ (.tail _ (.tail _ (.tail _ (.head _))))), hS (by dsimp only; omega) (by dsimp only; omega)⟩
        · exact .inl ⟨up (.tail _ (.tail _ (.tail _ (.tail _ (.tail _ (.head _)))))), hS (by dsimp only; omega) (by dsimp only; omega)⟩
        · exact .inl ⟨up (.tail _ (.tail _ (.tail _ (.tail _ (.tail _ (.tail _ (.head _))))))), hS (by dsimp only; omega) (by dsimp only; omega)⟩
        · exact .inr ⟨e1, .inl ⟨_, up (.tail _ (.tail _ (.tail _ (.tail _ (.tail _ (.tail _ (.tail _ (.head _))))))))⟩⟩
        · exact .inl ⟨up (.tail _ (.tail _ (.tail _ (.tail _ (.tail _ (.tail _ (.tail _ (.tail _ (.head _))))))))), hS (by dsimp only; omega) (by dsimp only; omega)⟩
      · exact .inl ⟨List.mem_append_right _ (List.mem_append_right _ e), hS (hq q e).1 (hq q e).2⟩
theorem strs_take_snoc {ys : List Value} {ws : List Str} {i : Nat} {x : Str} (h : StrsAre ys (ws.take i)) (e : ws[i]? = some x) (t : Tok) : StrsAre (ys ++ [.str x t]) (ws.take (i + 1)) := by
  rw [List.take_add_one, e]; exact strs_snoc h x t
theorem off_led {w : World} {lx : Lx} {I C D : Addr} {sg sg' : List Value} {ns ns' np : Nat} {pb : List Value} {ln ln' : Value} {post : List (Addr × Obj)} (h : LCg.Off3 I C D (lx.led w sg ns pb np ln ++ post)) : LCg.Off3 I C D (lx.led w sg' ns' pb np ln' ++ post) := h
section
theorem s4 {w : World} {p : Program} {loose : List Str} {mean : ExcName → Option Value} {mg mb : Str → Option Value} {dp un : Nat} {fs : Option (List Env)} {gd : Option (List Code)} {g : Heap} {L fa : Addr} {cd : Value} {s : Shared} {Q : Flow → Shared → Prop}
  (hdp : dp + 40 < recursionLimit) (hun : un + 400 < cLine) (X' : (hd.heap_39 w.params).In g) (T' : Top p loose mean mg mb g) (hC1 : CodeHd g 163 159) (hC2 : CodeHd g 111 107)
  (ret : ∀ h' tk', (∀ b o, g.get? b = some o → h'.get? b = some o) → GrownAt 159 h' → GrownAt 107 h' → Q (.ret (.bool true)) { s with heap := h', toks := tk' })
  {ps7 : Array Value}
  {W M : Addr} {nW ns np : Nat} {oM : Obj} {tl : Tok} {wv sg : List Value} {ws : List Str} {lx : Lx} (ok : lx.ok) (rs : ReadSpec w lx) (hws : StrsAre wv ws) (hwl : ws.length ≤ 3) {R : Nat → List Str} (hR : ∀ i, i < ws.length → ∃ x, ws[i]? = some x ∧ skipF (R i) = some (x, R (i + 1)))
  (hR1 : ∀ i, i ≤ ws.length → (∀ y ∈ R i, y.length = 1) ∧ (R i).length ≤ 1000) (hsg : StrsAre sg (R 0))
  {m : Str → Option Value} (F : Fr g L s.heap m) (hm : Knows m [("words", .ref W)])
  {c1 c2 c3 c4 : Obj} (hc2 : c2.data = .cell (some (.ref lx.x1)))
  (lo : ∀ a ∈ [W, M, L + 1 + 1 + 1 + 1, L + 1 + 1 + 1, L + 1 + 1, L + 1, 159, 107], ∀ q ∈ lx.led w sg ns [] np (.int 1 tl), @Ne Nat a q.1)
  (N : News g L s.heap (lx.led w sg ns [] np (.int 1 tl) ++ [(W, listOf wv.toArray nW), (M, oM), (L + 1 + 1 + 1 + 1, c4), (L + 1 + 1 + 1, c3), (L + 1 + 1, c2), (L + 1, c1), (159, tabObj #[]), (107, tabObj ps7)]))
  (next : ∀ h' tk' m' (D : Addr) (rv sg' : List Value) (ns' : Nat) (ks : Int) (tl' : Tok), StrsAre rv ws → StrsAre sg' (R ws.length) → Fr g L h' m' → Knows m' [("words", .ref W), ("read", .ref D)] →
    LCg.Off1 D (lx.led w sg' ns' [] np (.int ks tl') ++ [(W, listOf wv.toArray nW), (M, oM), (L + 1 + 1 + 1 + 1, c4), (L + 1 + 1 + 1, c3), (L + 1 + 1, c2), (L + 1, c1), (159, tabObj #[]), (107, tabObj ps7)]) →
    News g L h' ((D, LCg.lst rv) :: (lx.led w sg' ns' [] np (.int ks tl') ++ [(W, listOf wv.toArray nW), (M, oM), (L + 1 + 1 + 1 + 1, c4), (L + 1 + 1 + 1, c3), (L + 1 + 1, c2), (L + 1, c1), (159, tabObj #[]), (107, tabObj ps7)])) →
    wpAny (model PySem.Challenge.rw_ty0032_01.row.prog w) ((arA dp un fs gd).deeper (lawEnv L fa cd)) (execs (lawR.body.drop 7) (lawEnv L fa cd)) Q (fun _ _ => False) { s with heap := h', toks := tk' }) :
  wpAny (model PySem.Challenge.rw_ty0032_01.row.prog w) ((arA dp un fs gd).deeper (lawEnv L fa cd)) (execs (lawR.body.drop 6) (lawEnv L fa cd)) Q (fun _ _ => False) s := by
    unfold lawEnv at next ⊢
    dsimp only [lawR, recOf, List.drop] at next ⊢
    replace F := fr_knows hm F
    clear hm
    have hwvl : wv.length = ws.length := hws.len_eq
    (repeat' (first | (k_unfold; (try dsimp only)) | row_room_at HE | (k_end; wrow_close) | ((with_reducible show wpAny _ _ (execs (Stmt.If (Expr.BoolOp _ _ _) _ _ _ :: _) _) _ _ _); k_here; refine halt ?_) | ((with_reducible show PyProof.Rows.LCg.CompSrc _ _ _ _ _ _ _ _ _ _ _ _ _ _); (k_here; refine halt ?_)) | ((with_reducible show wpAny _ _ (eval (Expr.ListComp _ _ _ _) _) _ _ _); k_here; refine halt ?_) | ((with_reducible show wpAny _ _ (call (Value.ref _) _) _ _ _); k_here; refine halt ?_) | row_room_at HB | (dsimp only; (first | ((with_reducible show wpAny _ _ (execs (Stmt.If (Expr.BoolOp _ _ _) _ _ _ :: _) _) _ _ _); k_here; refine halt ?_) | ((with_reducible show PyProof.Rows.LCg.CompSrc _ _ _ _ _ _ _ _ _ _ _ _ _ _); (k_here; refine halt ?_)) | ((with_reducible show wpAny _ _ (eval (Expr.ListComp _ _ _ _) _) _ _ _); k_here; refine halt ?_) | ((with_reducible show wpAny _ _ (call (Value.ref _) _) _ _ _); k_here; refine halt ?_) | walk1 | row_room_at HE)) | (leave1; walk_say "STEP leave1"; try dsimp only)))
    refine go ?_
    (with_reducible rename Fr _ _ _ _ => F1)
    (with_reducible rename News _ _ _ _ => N1)
    refine LCg.CompSrc.ledger rfl F1 N1 (List.mem_append_right _ (.head _)) (size_small (by simp only [List.size_toArray]; omega)) ?_
    intro gg
    have hsz : wv.toArray.size = ws.length := by rw [List.size_toArray, hwvl]
    refine compRest_J (fun i ys news => ∃ (sg' : List Value) (ns' : Nat) (ks : Int) (tl' : Tok), StrsAre ys (ws.take i) ∧ StrsAre sg' (R i) ∧ news = lx.led w sg' ns' [] np (.int ks tl') ++ [(W, listOf wv.toArray nW), (M, oM), (L + 1 + 1 + 1 + 1, c4), (L + 1 + 1 + 1, c3), (L + 1 + 1, c2), (L + 1, c1), (159, tabObj #[]), (107, tabObj ps7)]) ?_ ?_ _ 0 [] _ (Nat.zero_add _) ⟨sg, ns, 1, tl, .nil, hsg, rfl⟩
    · clear F1 N1 next
      intro i ys news v I oI C oC DD m₂ h tk E' hin jz14
      (refine hideP ?_; intro PP hPP); (obtain ⟨sg', ns', ks, tl', hys, hsg', rfl⟩ := jz14) <;> (refine hPP ?_; clear hPP; clear PP)
      intro hv hC hx F N off ne
      rw [hsz] at hin
      (refine hideP ?_; intro PP hPP); (obtain ⟨x, hxi, hsk⟩ := hR i hin) <;> (refine hPP ?_; clear hPP; clear PP)
      have N0 := N
      have off0 := off
      dsimp only [Lx.led, List.cons_append, List.nil_append] at N
      simp only [Lx.led, List.cons_append, List.nil_append, LCg.Off3, and_true] at off
      (repeat' (first | (k_unfold; (try dsimp only)) | row_room_at HE | (k_end; wrow_close) | ((with_reducible show wpAny _ _ (execs (Stmt.If (Expr.BoolOp _ _ _) _ _ _ :: _) _) _ _ _); k_here; refine halt ?_) | ((with_reducible show PyProof.Rows.LCg.CompSrc _ _ _ _ _ _ _ _ _ _ _ _ _ _); (k_here; refine halt ?_)) | ((with_reducible show wpAny _ _ (eval (Expr.ListComp _ _ _ _) _) _ _ _); k_here; refine halt ?_) | ((with_reducible show wpAny _ _ (call (Value.ref _) _) _ _ _); k_here; refine halt ?_) | row_room_at HB | (dsimp only; (first | ((with_reducible show wpAny _ _ (execs (Stmt.If (Expr.BoolOp _ _ _) _ _ _ :: _) _) _ _ _); k_here; refine halt ?_) | ((with_reducible show PyProof.Rows.LCg.CompSrc _ _ _ _ _ _ _ _ _ _ _ _ _ _); (k_here; refine halt ?_)) | ((with_reducible show wpAny _ _ (eval (Expr.ListComp _ _ _ _) _) _ _ _); k_here; refine halt ?_) | ((with_reducible show wpAny _ _ (call (Value.ref _) _) _ _ _); k_here; refine halt ?_) | walk1 | row_room_at HE)) | (leave1; walk_say "STEP leave1"; try dsimp only)))
      refine go ?_
      (with_reducible rename Fr _ _ _ _ => F2)
      (with_reducible rename News _ _ _ _ => N2)
      obtain ⟨hone, hlen⟩ := hR1 i (Nat.le_of_lt hin)
      refine' getB_call (lx := lx) (np := np) (ks := ks) (tl := tl') ?ga ?gb X' T' ?gst ok rs hsg' ?gz hone hsk ?gm ?_
      (case ga => (first | exact lim2 hdp rfl | exact lim1 hdp rfl | exact lim2 hun rfl | exact lim1 hun rfl | exact lim0 hdp | exact lim0 hun | exact lim3 hdp rfl | exact lim3 hun rfl | ((try dsimp only [arA, Around.deeper]); omega)))
      (case gb => (first | exact lim2 hdp rfl | exact lim1 hdp rfl | exact lim2 hun rfl | exact lim1 hun rfl | exact lim0 hdp | exact lim0 hun | exact lim3 hdp rfl | exact lim3 hun rfl | ((try dsimp only [arA, Around.deeper]); omega)))
      (case gst => exact F2.keep)
      (case gz => (rw [hsg'.len_eq]; exact hlen))
      (case gm =>
        refine hn_of N2 fun q hq => ?_
        exact .tail _ (.tail _ (.tail _ (List.mem_append_left _ hq))))
      intro t5 h5 tk5 sg5 ns5 ks5 tl5 hsg5 kp5 eS5 ed5
      have offm := off0.mem
      have hSm := offm (lx.S, listOf sg'.toArray ns') (List.mem_append_left _ (.tail _ (.tail _ (.tail _ (.tail _ (.tail _ (.tail _ (.tail _ (.head _)))))))))
      have hdm := offm (lx.d1, lexD w lx.a1 lx.b1 lx.c1 lx.e1 lx.tw1 (.int ks tl') (.ref lx.x0) lx.p1) (List.mem_append_left _ (.tail _ (.head _)))
      have hpre : ∀ q ∈ [(I, oI), (C, oC), (DD, LCg.lst ys)], (@Ne Nat q.1 lx.S) ∧ (@Ne Nat q.1 lx.d1) := fun q hq => by
        revert hq
        revert q
        refine' all_cons ?_ (all_cons ?_ (all_cons ?_ (all_nil)))
        · exact ⟨Ne.symm hSm.1, Ne.symm hdm.1⟩
        · exact ⟨Ne.symm hSm.2.1, Ne.symm hdm.2.1⟩
        · exact ⟨Ne.symm hSm.2.2, Ne.symm hdm.2.2⟩
      have hpost : ∀ q ∈ [(W, listOf wv.toArray nW), (M, oM), (L + 1 + 1 + 1 + 1, c4), (L + 1 + 1 + 1, c3), (L + 1 + 1, c2), (L + 1, c1), (159, tabObj #[]), (107, tabObj ps7)], (@Ne Nat q.1 lx.S) ∧ (@Ne Nat q.1 lx.d1) := fun q hq => by
        have ha : q.1 ∈ [W, M, L + 1 + 1 + 1 + 1, L + 1 + 1 + 1, L + 1 + 1, L + 1, 159, 107] := by
          simp only [List.mem_cons, List.not_mem_nil, or_false] at hq ⊢
          rcases hq with rfl | rfl | rfl | rfl | rfl | rfl | rfl | rfl <;> simp
        exact ⟨lo q.1 ha (lx.S, listOf sg.toArray ns) (.tail _ (.tail _ (.tail _ (.tail _ (.tail _ (.tail _ (.tail _ (.head _)))))))), lo q.1 ha (lx.d1, _) (.tail _ (.head _))⟩
      obtain ⟨F5, N5⟩ := led_upd3 (w := w) (lx := lx) (pre := [(I, oI), (C, oC), (DD, LCg.lst ys)]) (post := [(W, listOf wv.toArray nW), (M, oM), (L + 1 + 1 + 1 + 1, c4), (L + 1 + 1 + 1, c3), (L + 1 + 1, c2), (L + 1, c1), (159, tabObj #[]), (107, tabObj ps7)]) (sg := sg') (ns := ns') (pb := []) (np := np) (ln := .int ks tl') (r := sg5) (ns' := ns5) (ln' := .int ks5 tl5) ok F2 N2 hpre hpost kp5 eS5 ed5
      clear F2 N2 kp5 eS5 ed5 hpre hpost offm hSm hdm
      (try dsimp only)
      (repeat (first | (k_unfold; (try dsimp only)) | row_room_at HE | dsimp only))
      (try dsimp only)
      refine LCg.CompEnd.intro F5 N5 _ (fun _ hp => hp) ?ceo ?ces ⟨sg5, ns5, ks5, tl5, strs_take_snoc hys hxi t5, hsg5, rfl⟩
      · exact off_led off0
      · exact .inr ⟨listOf wv.toArray nW, (by k_mem), rfl, nW, rfl⟩
    · intro ys news jz2
      (refine hideP ?_; intro PP hPP); (obtain ⟨sg', ns', ks, tl', hys, hsg', rfl⟩ := jz2) <;> (refine hPP ?_; clear hPP; clear PP)
      rw [hsz] at hys hsg'
      rw [List.take_length] at hys
      unfold LCg.FinA
      intro D h3 tk3 F3 N3 off
      (try dsimp only)
      (repeat row_room_at HE)
      exact next _ _ _ D ys sg' ns' ks tl' hys hsg' F3 ⟨rfl, rfl, trivial⟩ off N3
end

/-! T_s5 -/
theorem flushT_s5 : True ∧ True := by first | (row_walk; done) | (walk1; done) | exact ⟨trivial, trivial⟩
section
open PySem.Spec PyProof.V
theorem ks_canLayAll0 : ∀ ns : List Str, (∀ x ∈ ns, PyData.strOk x = true) → PyData.canLayAll0 (ns.map PyData.str) = true
  | [], _ => rfl
  | a :: r, h => by simp [PyData.canLayAll0, PyData.canLay0, ks_canLayAll0 r fun x hx => h x (.tail _ hx), h a (.head _)]
theorem ks_depthAll : ∀ ns : List Str, PyData.depthAll (ns.map PyData.str) = 0
  | [] => rfl
  | _ :: r => by simp [PyData.depthAll, PyData.depth, ks_depthAll r]
theorem ks_shaped (ns : List Str) (h : ∀ x ∈ ns, PyData.strOk x = true) : SeqAt.shaped (.list (ns.map PyData.str)) = true := by
  simp [SeqAt.shaped, PyData.canLay0, PyData.depth, ks_canLayAll0 ns h, ks_depthAll]
theorem ks_sameAll : ∀ ns : List Str, PySem.Spec.sameAll (ns.map PyData.str) (ns.map PyData.str) = true
  | [] => by simp [PySem.Spec.sameAll]
  | a :: r => by
    simp only [List.map_cons, PySem.Spec.sameAll, PySem.Spec.same, ks_sameAll r, Bool.and_true]
    first | exact beq_self_eq_true a | exact decide_eq_true rfl
theorem ks_carried {vs : List Value} {ns : List Str} (h : StrsAre vs ns) : CarriedAll vs (ns.map PyData.str) := by
  induction h with
  | nil => exact .nil
  | cons a t _ ih => exact .cons (.str _ t) ih
theorem ks_ne {prog : Program} {w : World} {A : Around} {E : Value → Shared → Prop} {s : Shared} {a b : Addr} {xs ys : List Value} {ns : List Str} {Q : Value → Shared → Prop} (ha : s.heap.IsList a xs.toArray) (hb : s.heap.IsList b ys.toArray) (hi : StrsAre xs ns) (hj : StrsAre ys ns) (ho : ∀ x ∈ ns, PyData.strOk x = true) (hu : A.units + 64 < cLine) (h : Q (.bool false) s) :
    wpAny (model prog w) A (compareOp .NotEq (.ref a) (.ref b)) Q E s :=
  ne_dataH_same (reads_newData ha (ks_carried hi)) (reads_newData hb (ks_carried hj)) (ks_shaped _ ho) (ks_shaped _ ho) hu (SeqAt.noMix_of_shape (.list .str) rfl _ _ (list_map_has fun _ => rfl) (list_map_has fun _ => rfl)) (by
    have e : PySem.Spec.same (.list (ns.map PyData.str)) (.list (ns.map PyData.str)) = true := by
      simp only [PySem.Spec.same]; exact ks_sameAll ns
    rw [e]; exact h)
end
theorem words_get {vs : List Value} {ms : List Nat} (h : Words vs ms) : ∀ (i : Nat) (v : Value), vs[i]? = some v → ∃ m, ms[i]? = some m ∧ IsWord v m := by
  induction h with
  | nil => intro i v e; simp at e
  | @cons v m vs ms hw _ ih =>
    intro i v' e
    cases i with
    | zero => simp at e; subst e; exact ⟨m, rfl, hw⟩
    | succ i => simpa using ih i v' (by simpa using e)
theorem ints_take_snoc {ys : List Value} {ms : List Nat} {i m : Nat} (h : IntsAre ys ((ms.take i).map fun n : Nat => (n : Int))) (e : ms[i]? = some m) (t : Tok) : IntsAre (ys ++ [.int (m : Int) t]) ((ms.take (i + 1)).map fun n : Nat => (n : Int)) := by
  rw [List.take_add_one, e, List.map_append]; exact IntsAre.append h (.cons _ _ .nil)
theorem LCg_off1 {D : Addr} : ∀ {l : List (Addr × Obj)}, LCg.Off1 D l → ∀ p ∈ l, @Ne Nat p.1 D
  | [], _, _, h => nomatch h
  | _ :: _, x, p, h => by
    rcases List.mem_cons.mp h with rfl | h
    · exact x.1
    · exact LCg_off1 x.2 p h
section
theorem s5 {w : World} {p : Program} {loose : List Str} {mean : ExcName → Option Value} {mg mb : Str → Option Value} {dp un : Nat} {fs : Option (List Env)} {gd : Option (List Code)} {g : Heap} {L fa : Addr} {cd : Value} {s : Shared} {Q : Flow → Shared → Prop}
  (hdp : dp + 40 < recursionLimit) (hun : un + 400 < cLine) (X' : (hd.heap_39 w.params).In g) (T' : Top p loose mean mg mb g) (hC1 : CodeHd g 163 159) (hC2 : CodeHd g 111 107)
  (ret : ∀ h' tk', (∀ b o, g.get? b = some o → h'.get? b = some o) → GrownAt 159 h' → GrownAt 107 h' → Q (.ret (.bool true)) { s with heap := h', toks := tk' })
  {ps7 : Array Value}
  {W M D : Addr} {nW nM ns np : Nat} {ks : Int} {tl : Tok} {wv rv vM sg : List Value} {ws : List Str} {ms : List Nat} {lx : Lx} (ok : lx.ok) (rs : ReadSpec w lx) (hws : StrsAre wv ws) (hrv : StrsAre rv ws) (hvM : IntsAre vM (ms.map fun n : Nat => (n : Int))) (hWd : Words rv ms) (hwl : ws.length ≤ 3) (hwo : ∀ x ∈ ws, PyData.strOk x = true)
  {R0 : List Str} {R1 : List Str} (hsk : skipF R0 = some (Str.ofString "", R1)) (hone : ∀ y ∈ R0, y.length = 1) (hR0 : R0.length ≤ 1000) (hsg : StrsAre sg R0)
  {m : Str → Option Value} (F : Fr g L s.heap m) (hm : Knows m [("words", .ref W), ("read", .ref D)])
  {c1 c2 c3 c4 : Obj} (hc1 : c1.data = .cell (some (.ref M))) (hc2 : c2.data = .cell (some (.ref lx.x1)))
  (lo : ∀ a ∈ [W, M, L + 1 + 1 + 1 + 1, L + 1 + 1 + 1, L + 1 + 1, L + 1, 159, 107], ∀ q ∈ lx.led w sg ns [] np (.int ks tl), @Ne Nat a q.1)
  (off : LCg.Off1 D (lx.led w sg ns [] np (.int ks tl) ++ [(W, listOf wv.toArray nW), (M, listOf vM.toArray nM), (L + 1 + 1 + 1 + 1, c4), (L + 1 + 1 + 1, c3), (L + 1 + 1, c2), (L + 1, c1), (159, tabObj #[]), (107, tabObj ps7)]))
  (N : News g L s.heap ((D, LCg.lst rv) :: (lx.led w sg ns [] np (.int ks tl) ++ [(W, listOf wv.toArray nW), (M, listOf vM.toArray nM), (L + 1 + 1 + 1 + 1, c4), (L + 1 + 1 + 1, c3), (L + 1 + 1, c2), (L + 1, c1), (159, tabObj #[]), (107, tabObj ps7)])))
  (next : ∀ h' tk' m' (ln : Value), Fr g L h' m' → Knows m' [("read", .ref D)] →
    News g L h' [(D, LCg.lst rv), (lx.x1, instObj 101 lx.d1), (lx.d1, lexD w lx.a1 lx.b1 lx.c1 lx.e1 lx.tw1 ln (.ref lx.x0) lx.p1), (lx.p1, listOf #[] np), (M, listOf vM.toArray nM), (L + 1 + 1 + 1 + 1, c4), (L + 1 + 1 + 1, c3), (L + 1 + 1, c2), (L + 1, c1), (159, tabObj #[]), (107, tabObj ps7)] →
    wpAny (model PySem.Challenge.rw_ty0032_01.row.prog w) ((arA dp un fs gd).deeper (lawEnv L fa cd)) (execs (lawR.body.drop 8) (lawEnv L fa cd)) Q (fun _ _ => False) { s with heap := h', toks := tk' }) :
  wpAny (model PySem.Challenge.rw_ty0032_01.row.prog w) ((arA dp un fs gd).deeper (lawEnv L fa cd)) (execs (lawR.body.drop 7) (lawEnv L fa cd)) Q (fun _ _ => False) s := by
    unfold lawEnv at next ⊢
    dsimp only [lawR, recOf, List.drop] at next ⊢
    replace F := fr_knows hm F
    clear hm
    have hrvl : rv.length = ws.length := hrv.len_eq
    have off0 := off
    simp only [Lx.led, List.cons_append, List.nil_append, LCg.Off1, and_true] at off
    dsimp only [Lx.led, List.cons_append, List.nil_append] at N
    (repeat' (first | (k_unfold; (try dsimp only)) | row_room_at HE | (k_end; wrow_close) | ((with_reducible show wpAny _ _ (execs (Stmt.For (Expr.Name (Str.ofString "word") _) _ _ _ _ :: _) _) _ _ _); k_here; refine halt ?_) | ((with_reducible show wpAny _ _ (compareOp CmpOp.NotEq (Value.ref _) (Value.ref _)) _ _ _); (k_here; refine halt ?_)) | ((with_reducible show PyProof.Rows.LCg.CompSrc _ _ _ _ _ _ _ _ _ _ _ _ _ _); (k_here; refine halt ?_)) | ((with_reducible show wpAny _ _ (eval (Expr.ListComp _ _ _ _) _) _ _ _); k_here; refine halt ?_) | ((with_reducible show wpAny _ _ (call (Value.ref _) _) _ _ _); k_here; refine halt ?_) | row_room_at HB | (dsimp only; (first | ((with_reducible show wpAny _ _ (execs (Stmt.For (Expr.Name (Str.ofString "word") _) _ _ _ _ :: _) _) _ _ _); k_here; refine halt ?_) | ((with_reducible show wpAny _ _ (compareOp CmpOp.NotEq (Value.ref _) (Value.ref _)) _ _ _); (k_here; refine halt ?_)) | ((with_reducible show PyProof.Rows.LCg.CompSrc _ _ _ _ _ _ _ _ _ _ _ _ _ _); (k_here; refine halt ?_)) | ((with_reducible show wpAny _ _ (eval (Expr.ListComp _ _ _ _) _) _ _ _); k_here; refine halt ?_) | ((with_reducible show wpAny _ _ (call (Value.ref _) _) _ _ _); k_here; refine halt ?_) | walk1 | row_room_at HE)) | (leave1; walk_say "STEP leave1"; try dsimp only)))
    refine go ?_
    (with_reducible rename Fr _ _ _ _ => F1)
    (with_reducible rename News _ _ _ _ => N1)
    refine' ks_ne ?ia ?ib hrv hws hwo ?iu ?_
    (case ia => exact ⟨_, (N1 (D, LCg.lst rv) (.head _)).1, rfl, _, rfl⟩)
    (case ib => exact isL (N1 (W, listOf wv.toArray nW) (by k_mem)).1)
    (case iu => (first | exact lim2 hdp rfl | exact lim1 hdp rfl | exact lim2 hun rfl | exact lim1 hun rfl | exact lim0 hdp | exact lim0 hun | exact lim3 hdp rfl | exact lim3 hun rfl | ((try dsimp only [arA, Around.deeper]); omega)))
    (repeat' (first | (k_unfold; (try dsimp only)) | row_room_at HE | (k_end; wrow_close) | ((with_reducible show wpAny _ _ (execs (Stmt.For (Expr.Name (Str.ofString "word") _) _ _ _ _ :: _) _) _ _ _); k_here; refine halt ?_) | ((with_reducible show wpAny _ _ (compareOp CmpOp.NotEq (Value.ref _) (Value.ref _)) _ _ _); (k_here; refine halt ?_)) | ((with_reducible show PyProof.Rows.LCg.CompSrc _ _ _ _ _ _ _ _ _ _ _ _ _ _); (k_here; refine halt ?_)) | ((with_reducible show wpAny _ _ (eval (Expr.ListComp _ _ _ _) _) _ _ _); k_here; refine halt ?_) | ((with_reducible show wpAny _ _ (call (Value.ref _) _) _ _ _); k_here; refine halt ?_) | row_room_at HB | (dsimp only; (first | ((with_reducible show wpAny _ _ (execs (Stmt.For (Expr.Name (Str.ofString "word") _) _ _ _ _ :: _) _) _ _ _); k_here; refine halt ?_) | ((with_reducible show wpAny _ _ (compareOp CmpOp.NotEq (Value.ref _) (Value.ref _)) _ _ _); (k_here; refine halt ?_)) | ((with_reducible show PyProof.Rows.LCg.CompSrc _ _ _ _ _ _ _ _ _ _ _ _ _ _); (k_here; refine halt ?_)) | ((with_reducible show wpAny _ _ (eval (Expr.ListComp _ _ _ _) _) _ _ _); k_here; refine halt ?_) | ((with_reducible show wpAny _ _ (call (Value.ref _) _) _ _ _); k_here; refine halt ?_) | walk1 | row_room_at HE)) | (leave1; walk_say "STEP leave1"; try dsimp only)))
    refine go ?_
    refine LCg.ListComp_U (F₀ := by k_asm) (by with_unfolding_all rfl) (by decide) (by rfl) (by decide) (by rfl) ?_
    (repeat' (first | (k_unfold; (try dsimp only)) | row_room_at HE | (k_end; wrow_close) | ((with_reducible show wpAny _ _ (execs (Stmt.For (Expr.Name (Str.ofString "word") _) _ _ _ _ :: _) _) _ _ _); k_here; refine halt ?_) | ((with_reducible show wpAny _ _ (compareOp CmpOp.NotEq (Value.ref _) (Value.ref _)) _ _ _); (k_here; refine halt ?_)) | ((with_reducible show PyProof.Rows.LCg.CompSrc _ _ _ _ _ _ _ _ _ _ _ _ _ _); (k_here; refine halt ?_)) | ((with_reducible show wpAny _ _ (eval (Expr.ListComp _ _ _ _) _) _ _ _); k_here; refine halt ?_) | ((with_reducible show wpAny _ _ (call (Value.ref _) _) _ _ _); k_here; refine halt ?_) | row_room_at HB | (dsimp only; (first | ((with_reducible show wpAny _ _ (execs (Stmt.For (Expr.Name (Str.ofString "word") _) _ _ _ _ :: _) _) _ _ _); k_here; refine halt ?_) | ((with_reducible show wpAny _ _ (compareOp CmpOp.NotEq (Value.ref _) (Value.ref _)) _ _ _); (k_here; refine halt ?_)) | ((with_reducible show PyProof.Rows.LCg.CompSrc _ _ _ _ _ _ _ _ _ _ _ _ _ _); (k_here; refine halt ?_)) | ((with_reducible show wpAny _ _ (eval (Expr.ListComp _ _ _ _) _) _ _ _); k_here; refine halt ?_) | ((with_reducible show wpAny _ _ (call (Value.ref _) _) _ _ _); k_here; refine halt ?_) | walk1 | row_room_at HE)) | (leave1; walk_say "STEP leave1"; try dsimp only)))
    refine go ?_
    (with_reducible rename Fr _ _ _ _ => F2)
    (with_reducible rename News _ _ _ _ => N2)
    refine LCg.CompSrc.ledger rfl F2 N2 (.head _) (size_small (by simp only [List.size_toArray]; omega)) ?_
    intro gg
    have hml : ms.length = rv.length := hWd.len.symm
    have hsz : rv.toArray.size = ms.length := by rw [List.size_toArray, hml]
    refine compRest_J (fun i ys news => IntsAre ys ((ms.take i).map fun n : Nat => (n : Int)) ∧ news = (D, LCg.lst rv) :: (lx.led w sg ns [] np (.int ks tl) ++ [(W, listOf wv.toArray nW), (M, listOf vM.toArray nM), (L + 1 + 1 + 1 + 1, c4), (L + 1 + 1 + 1, c3), (L + 1 + 1, c2), (L + 1, c1), (159, tabObj #[]), (107, tabObj ps7)])) ?_ ?_ _ 0 [] _ (Nat.zero_add _) ⟨.nil, rfl⟩
    · clear F2 N2 next
      rintro i ys news v I oI C oC DD m₂ h tk E' hin ⟨hys, rfl⟩ hv hC hx F N offC ne
      rw [hsz] at hin
      (refine hideP ?_; intro PP hPP); (obtain ⟨mm, hmi, word, tq, aw, cw, rfl, w1, w2, w3, w4, w5⟩ := words_get hWd i v (by simpa using hv)) <;> (refine hPP ?_; clear hPP; clear PP)
      have offC0 := offC
      dsimp only [Lx.led, List.cons_append, List.nil_append] at N
      clear offC
      (repeat' (first | (k_unfold; (try dsimp only)) | row_room_at HE | (k_end; wrow_close) | ((with_reducible show wpAny _ _ (execs (Stmt.For (Expr.Name (Str.ofString "word") _) _ _ _ _ :: _) _) _ _ _); k_here; refine halt ?_) | ((with_reducible show wpAny _ _ (compareOp CmpOp.NotEq (Value.ref _) (Value.ref _)) _ _ _); (k_here; refine halt ?_)) | ((with_reducible show PyProof.Rows.LCg.CompSrc _ _ _ _ _ _ _ _ _ _ _ _ _ _); (k_here; refine halt ?_)) | ((with_reducible show wpAny _ _ (eval (Expr.ListComp _ _ _ _) _) _ _ _); k_here; refine halt ?_) | ((with_reducible show wpAny _ _ (call (Value.ref _) _) _ _ _); k_here; refine halt ?_) | row_room_at HB | (dsimp only; (first | ((with_reducible show wpAny _ _ (execs (Stmt.For (Expr.Name (Str.ofString "word") _) _ _ _ _ :: _) _) _ _ _); k_here; refine halt ?_) | ((with_reducible show wpAny _ _ (compareOp CmpOp.NotEq (Value.ref _) (Value.ref _)) _ _ _); (k_here; refine halt ?_)) | ((with_reducible show PyProof.Rows.LCg.CompSrc _ _ _ _ _ _ _ _ _ _ _ _ _ _); (k_here; refine halt ?_)) | ((with_reducible show wpAny _ _ (eval (Expr.ListComp _ _ _ _) _) _ _ _); k_here; refine halt ?_) | ((with_reducible show wpAny _ _ (call (Value.ref _) _) _ _ _); k_here; refine halt ?_) | walk1 | row_room_at HE)) | (leave1; walk_say "STEP leave1"; try dsimp only)))
      refine go ?_
      (with_reducible rename Fr _ _ _ _ => F4)
      (with_reducible rename News _ _ _ _ => N4)
      refine' law_told_call ?ha ?hb X' T' ?hst w1 w2 w3 w4 ?_
      (case ha => (first | exact lim2 hdp rfl | exact lim1 hdp rfl | exact lim2 hun rfl | exact lim1 hun rfl | exact lim0 hdp | exact lim0 hun | exact lim3 hdp rfl | exact lim3 hun rfl | ((try dsimp only [arA, Around.deeper]); omega)))
      (case hb => (first | exact lim2 hdp rfl | exact lim1 hdp rfl | exact lim2 hun rfl | exact lim1 hun rfl | exact lim0 hdp | exact lim0 hun | exact lim3 hdp rfl | exact lim3 hun rfl | ((try dsimp only [arA, Around.deeper]); omega)))
      (case hst => exact F4.keep)
      intro t5 h5 tk5 kp5
      have F5 := fr_kept0 F4 kp5
      have N5 := news_kept0 N4 kp5
      clear kp5 F4 N4
      rw [w5]
      (try dsimp only)
      (repeat (first | (k_unfold; (try dsimp only)) | row_room_at HE | dsimp only))
      (try dsimp only)
      refine LCg.CompEnd.intro F5 N5 _ (fun _ hp => hp) offC0 ?ces ⟨ints_take_snoc hys hmi t5, rfl⟩
      exact .inr ⟨LCg.lst rv, .head _, rfl, rv.length, rfl⟩
    · rintro ys news ⟨hys, rfl⟩ D2 h3 tk3 F3 N3 off2
      rw [hsz, List.take_length] at hys
      dsimp only [Lx.led, List.cons_append, List.nil_append] at N3
      clear F2 N2
      (repeat' (first | (k_unfold; (try dsimp only)) | row_room_at HE | (k_end; wrow_close) | ((with_reducible show wpAny _ _ (execs (Stmt.For (Expr.Name (Str.ofString "word") _) _ _ _ _ :: _) _) _ _ _); k_here; refine halt ?_) | ((with_reducible show wpAny _ _ (compareOp CmpOp.NotEq (Value.ref _) (Value.ref _)) _ _ _); (k_here; refine halt ?_)) | ((with_reducible show PyProof.Rows.LCg.CompSrc _ _ _ _ _ _ _ _ _ _ _ _ _ _); (k_here; refine halt ?_)) | ((with_reducible show wpAny _ _ (eval (Expr.ListComp _ _ _ _) _) _ _ _); k_here; refine halt ?_) | ((with_reducible show wpAny _ _ (call (Value.ref _) _) _ _ _); k_here; refine halt ?_) | row_room_at HB | (dsimp only; (first | ((with_reducible show wpAny _ _ (execs (Stmt.For (Expr.Name (Str.ofString "word") _) _ _ _ _ :: _) _) _ _ _); k_here; refine halt ?_) | ((with_reducible show wpAny _ _ (compareOp CmpOp.NotEq (Value.ref _) (Value.ref _)) _ _ _); (k_here; refine halt ?_)) | ((with_reducible show PyProof.Rows.LCg.CompSrc _ _ _ _ _ _ _ _ _ _ _ _ _ _); (k_here; refine halt ?_)) | ((with_reducible show wpAny _ _ (eval (Expr.ListComp _ _ _ _) _) _ _ _); k_here; refine halt ?_) | ((with_reducible show wpAny _ _ (call (Value.ref _) _) _ _ _); k_here; refine halt ?_) | walk1 | row_room_at HE)) | (leave1; walk_say "STEP leave1"; try dsimp only)))
      refine go ?_
      (with_reducible rename Fr _ _ _ _ => F4)
      (with_reducible rename News _ _ _ _ => N4)
      refine' ke_ne_ints ?ja ?jb hys hvM ?ju ?_
      (case ja => exact ⟨_, (N4 (D2, LCg.lst ys) (.head _)).1, rfl, _, rfl⟩)
      (case jb => exact isL (N4 (M, listOf vM.toArray nM) (by k_mem)).1)
      (case ju => (first | exact lim2 hdp rfl | exact lim1 hdp rfl | exact lim2 hun rfl | exact lim1 hun rfl | exact lim0 hdp | exact lim0 hun | exact lim3 hdp rfl | exact lim3 hun rfl | ((try dsimp only [arA, Around.deeper]); omega)))
      rw [decide_eq_true rfl]
      (repeat' (first | (k_unfold; (try dsimp only)) | row_room_at HE | (k_end; wrow_close) | ((with_reducible show wpAny _ _ (execs (Stmt.For (Expr.Name (Str.ofString "word") _) _ _ _ _ :: _) _) _ _ _); k_here; refine halt ?_) | ((with_reducible show wpAny _ _ (compareOp CmpOp.NotEq (Value.ref _) (Value.ref _)) _ _ _); (k_here; refine halt ?_)) | ((with_reducible show PyProof.Rows.LCg.CompSrc _ _ _ _ _ _ _ _ _ _ _ _ _ _); (k_here; refine halt ?_)) | ((with_reducible show wpAny _ _ (eval (Expr.ListComp _ _ _ _) _) _ _ _); k_here; refine halt ?_) | ((with_reducible show wpAny _ _ (call (Value.ref _) _) _ _ _); k_here; refine halt ?_) | row_room_at HB | (dsimp only; (first | ((with_reducible show wpAny _ _ (execs (Stmt.For (Expr.Name (Str.ofString "word") _) _ _ _ _ :: _) _) _ _ _); k_here; refine halt ?_) | ((with_reducible show wpAny _ _ (compareOp CmpOp.NotEq (Value.ref _) (Value.ref _)) _ _ _); (k_here; refine halt ?_)) | ((with_reducible show PyProof.Rows.LCg.CompSrc _ _ _ _ _ _ _ _ _ _ _ _ _ _); (k_here; refine halt ?_)) | ((with_reducible show wpAny _ _ (eval (Expr.ListComp _ _ _ _) _) _ _ _); k_here; refine halt ?_) | ((with_reducible show wpAny _ _ (call (Value.ref _) _) _ _ _); k_here; refine halt ?_) | walk1 | row_room_at HE)) | (leave1; walk_say "STEP leave1"; try dsimp only)))
      refine go ?_
      (with_reducible rename Fr _ _ _ _ => F6)
      (with_reducible rename News _ _ _ _ => N6)
      refine' getB_call (lx := lx) (sg := sg) (ns := ns) (np := np) (ks := ks) (tl := tl) ?ga ?gb X' T' ?gst ok rs hsg ?gz hone hsk ?gm ?_
      (case ga => (first | exact lim2 hdp rfl | exact lim1 hdp rfl | exact lim2 hun rfl | exact lim1 hun rfl | exact lim0 hdp | exact lim0 hun | exact lim3 hdp rfl | exact lim3 hun rfl | ((try dsimp only [arA, Around.deeper]); omega)))
      (case gb => (first | exact lim2 hdp rfl | exact lim1 hdp rfl | exact lim2 hun rfl | exact lim1 hun rfl | exact lim0 hdp | exact lim0 hun | exact lim3 hdp rfl | exact lim3 hun rfl | ((try dsimp only [arA, Around.deeper]); omega)))
      (case gst => exact F6.keep)
      (case gz => (rw [hsg.len_eq]; exact hR0))
      (case gm =>
        refine hn_of N6 fun q hq => ?_
        exact .tail _ (.tail _ (List.mem_append_left _ hq)))
      intro t7 h7 tk7 sg7 ns7 ks7 tl7 hsg7 kp7 eS7 ed7
      have offm := LCg_off1 off2
      have hSm := offm (lx.S, listOf sg.toArray ns) (.tail _ (List.mem_append_left _ (.tail _ (.tail _ (.tail _ (.tail _ (.tail _ (.tail _ (.tail _ (.head _))))))))))
      have hdm := offm (lx.d1, lexD w lx.a1 lx.b1 lx.c1 lx.e1 lx.tw1 (.int ks tl) (.ref lx.x0) lx.p1) (.tail _ (List.mem_append_left _ (.tail _ (.head _))))
      have offD := LCg_off1 off0
      have hSD := offD (lx.S, listOf sg.toArray ns) (List.mem_append_left _ (.tail _ (.tail _ (.tail _ (.tail _ (.tail _ (.tail _ (.tail _ (.head _)))))))))
      have hdD := offD (lx.d1, lexD w lx.a1 lx.b1 lx.c1 lx.e1 lx.tw1 (.int ks tl) (.ref lx.x0) lx.p1) (List.mem_append_left _ (.tail _ (.head _)))
      have hpre : ∀ q ∈ [(D2, LCg.lst ys), (D, LCg.lst rv)], (@Ne Nat q.1 lx.S) ∧ (@Ne Nat q.1 lx.d1) := fun q hq => by
        revert hq
        revert q
        refine' all_cons ?_ (all_cons ?_ (all_nil))
        · exact ⟨Ne.symm hSm, Ne.symm hdm⟩
        · exact ⟨Ne.symm hSD, Ne.symm hdD⟩
      have hpost : ∀ q ∈ [(W, listOf wv.toArray nW), (M, listOf vM.toArray nM), (L + 1 + 1 + 1 + 1, c4), (L + 1 + 1 + 1, c3), (L + 1 + 1, c2), (L + 1, c1), (159, tabObj #[]), (107, tabObj ps7)], (@Ne Nat q.1 lx.S) ∧ (@Ne Nat q.1 lx.d1) := fun q hq => by
        have ha : q.1 ∈ [W, M, L + 1 + 1 + 1 + 1, L + 1 + 1 + 1, L + 1 + 1, L + 1, 159, 107] := by
          simp only [List.mem_cons, List.not_mem_nil, or_false] at hq ⊢
          rcases hq with rfl | rfl | rfl | rfl | rfl | rfl | rfl | rfl <;> simp
        exact ⟨lo q.1 ha (lx.S, listOf sg.toArray ns) (.tail _ (.tail _ (.tail _ (.tail _ (.tail _ (.tail _ (.tail _ (.head _)))))))), lo q.1 ha (lx.d1, _) (.tail _ (.head _))⟩
      obtain ⟨F7, N7⟩ := led_upd3 (w := w) (lx := lx) (pre := [(D2, LCg.lst ys), (D, LCg.lst rv)]) (post := [(W, listOf wv.toArray nW), (M, listOf vM.toArray nM), (L + 1 + 1 + 1 + 1, c4), (L + 1 + 1 + 1, c3), (L + 1 + 1, c2), (L + 1, c1), (159, tabObj #[]), (107, tabObj ps7)]) (sg := sg) (ns := ns) (pb := []) (np := np) (ln := .int ks tl) (r := sg7) (ns' := ns7) (ln' := .int ks7 tl7) ok F6 N6 hpre hpost kp7 eS7 ed7
      clear F6 N6 kp7 eS7 ed7 hpre hpost offm hSm hdm offD hSD hdD
      have N8 : News g L h7 [(D, LCg.lst rv), (lx.x1, instObj 101 lx.d1), (lx.d1, lexD w lx.a1 lx.b1 lx.c1 lx.e1 lx.tw1 (.int ks7 tl7) (.ref lx.x0) lx.p1), (lx.p1, listOf #[] np), (M, listOf vM.toArray nM), (L + 1 + 1 + 1 + 1, c4), (L + 1 + 1 + 1, c3), (L + 1 + 1, c2), (L + 1, c1), (159, tabObj #[]), (107, tabObj ps7)] := news_sub N7 (fun q hq => by
        dsimp only [Lx.led, List.cons_append, List.nil_append]
        revert hq
        revert q
        refine' all_cons ?_ (all_cons ?_ (all_cons ?_ (all_cons ?_ (all_cons ?_ (all_cons ?_ (all_cons ?_ (all_cons ?_ (all_cons ?_ (all_cons ?_ (all_cons ?_ (all_nil)))))))))))
        all_goals k_mem)
      clear N7
      (repeat' (first | (k_unfold; (try dsimp only)) | row_room_at HE | (k_end; wrow_close) | ((with_reducible show wpAny _ _ (execs (Stmt.For (Expr.Name (Str.ofString "word") _) _ _ _ _ :: _) _) _ _ _); k_here; refine halt ?_) | ((with_reducible show wpAny _ _ (compareOp CmpOp.NotEq (Value.ref _) (Value.ref _)) _ _ _); (k_here; refine halt ?_)) | ((with_reducible show PyProof.Rows.LCg.CompSrc _ _ _ _ _ _ _ _ _ _ _ _ _ _); (k_here; refine halt ?_)) | ((with_reducible show wpAny _ _ (eval (Expr.ListComp _ _ _ _) _) _ _ _); k_here; refine halt ?_) | ((with_reducible show wpAny _ _ (call (Value.ref _) _) _ _ _); k_here; refine halt ?_) | row_room_at HB | (dsimp only; (first | ((with_reducible show wpAny _ _ (execs (Stmt.For (Expr.Name (Str.ofString "word") _) _ _ _ _ :: _) _) _ _ _); k_here; refine halt ?_) | ((with_reducible show wpAny _ _ (compareOp CmpOp.NotEq (Value.ref _) (Value.ref _)) _ _ _); (k_here; refine halt ?_)) | ((with_reducible show PyProof.Rows.LCg.CompSrc _ _ _ _ _ _ _ _ _ _ _ _ _ _); (k_here; refine halt ?_)) | ((with_reducible show wpAny _ _ (eval (Expr.ListComp _ _ _ _) _) _ _ _); k_here; refine halt ?_) | ((with_reducible show wpAny _ _ (call (Value.ref _) _) _ _ _); k_here; refine halt ?_) | walk1 | row_room_at HE)) | (leave1; walk_say "STEP leave1"; try dsimp only)))
      refine go ?_
      (with_reducible rename Fr _ _ _ _ => F9)
      (with_reducible rename News _ _ _ _ => N9)
      (repeat row_room_at HE)
      exact next _ _ _ (.int ks7 tl7) F9 ⟨rfl, trivial⟩ N9
end

/-! T_s6 -/
theorem flushT_s6 : True ∧ True := by first | (row_walk; done) | (walk1; done) | exact ⟨trivial, trivial⟩
theorem words_take_snoc {pb : List Value} {ms : List Nat} {i m : Nat} {v : Value} (h : Words pb (ms.take i)) (e : ms[i]? = some m) (hv : IsWord v m) : Words (pb ++ [v]) (ms.take (i + 1)) := by
  rw [List.take_add_one, e]; exact h.snoc hv
section
theorem s6 {w : World} {p : Program} {loose : List Str} {mean : ExcName → Option Value} {mg mb : Str → Option Value} {dp un : Nat} {fs : Option (List Env)} {gd : Option (List Code)} {g : Heap} {L fa : Addr} {cd : Value} {s : Shared} {Q : Flow → Shared → Prop}
  (hdp : dp + 40 < recursionLimit) (hun : un + 400 < cLine) (X' : (hd.heap_39 w.params).In g) (T' : Top p loose mean mg mb g) (hC1 : CodeHd g 163 159) (hC2 : CodeHd g 111 107)
  (ret : ∀ h' tk', (∀ b o, g.get? b = some o → h'.get? b = some o) → GrownAt 159 h' → GrownAt 107 h' → Q (.ret (.bool true)) { s with heap := h', toks := tk' })
  {ps7 : Array Value}
  {M D : Addr} {nM np : Nat} {rv vM : List Value} {ms : List Nat} {lx : Lx} {ln : Value} (ok : lx.ok) (hWd : Words rv ms) (hml : ms.length ≤ 3) (hms : ∀ m ∈ ms, m < 32) (hLt : @LT.lt Nat _ 159 L ∧ @LT.lt Nat _ 107 L) (hM : @Ne Nat (L + 1 + 1 + 1 + 1) M ∧ @Ne Nat (L + 1 + 1 + 1) M ∧ @Ne Nat (L + 1 + 1) M ∧ @Ne Nat (L + 1) M ∧ @Ne Nat 159 M)
  {m : Str → Option Value} (F : Fr g L s.heap m) (hm : Knows m [("read", .ref D)])
  {c1 c2 c3 c4 : Obj} (hc2 : c2.data = .cell (some (.ref lx.x1))) (hc3 : c3.data = .cell none)
  (hp1 : ∀ a ∈ [D, M, L + 1 + 1 + 1 + 1, L + 1 + 1 + 1, L + 1 + 1, L + 1, 159, 107], @Ne Nat a lx.p1)
  (N : News g L s.heap [(D, LCg.lst rv), (lx.x1, instObj 101 lx.d1), (lx.d1, lexD w lx.a1 lx.b1 lx.c1 lx.e1 lx.tw1 ln (.ref lx.x0) lx.p1), (lx.p1, listOf #[] np), (M, listOf vM.toArray nM), (L + 1 + 1 + 1 + 1, c4), (L + 1 + 1 + 1, c3), (L + 1 + 1, c2), (L + 1, c1), (159, tabObj #[]), (107, tabObj ps7)])
  (next : ∀ h' tk' m' (RD : Addr) (vR : List Value) (nR : Nat) (c3' : Obj), IntsAre vR ((downRow ms).map fun n : Nat => (n : Int)) → Fr g L h' m' → c3'.data = .cell (some (.ref RD)) →
    (@Ne Nat (L + 1 + 1 + 1 + 1) RD ∧ @Ne Nat (L + 1 + 1 + 1) RD ∧ @Ne Nat (L + 1 + 1) RD ∧ @Ne Nat (L + 1) RD ∧ @Ne Nat 159 RD) →
    News g L h' [(RD, listOf vR.toArray nR), (M, listOf vM.toArray nM), (L + 1 + 1 + 1 + 1, c4), (L + 1 + 1 + 1, c3'), (L + 1 + 1, c2), (L + 1, c1), (159, tabObj #[]), (107, tabObj ps7)] →
    wpAny (model PySem.Challenge.rw_ty0032_01.row.prog w) ((arA dp un fs gd).deeper (lawEnv L fa cd)) (execs (lawR.body.drop 10) (lawEnv L fa cd)) Q (fun _ _ => False) { s with heap := h', toks := tk' }) :
  wpAny (model PySem.Challenge.rw_ty0032_01.row.prog w) ((arA dp un fs gd).deeper (lawEnv L fa cd)) (execs (lawR.body.drop 8) (lawEnv L fa cd)) Q (fun _ _ => False) s := by
    unfold lawEnv at next ⊢
    dsimp only [lawR, recOf, List.drop] at next ⊢
    replace F := fr_knows hm F
    clear hm
    have hrvl : rv.length = ms.length := hWd.len
    (refine hideP ?_; intro PP hPP); (obtain ⟨o1, o2, o3, o4, o5, o6, o7, o8, _⟩ := id ok) <;> (refine hPP ?_; clear hPP; clear PP)
    (repeat' (first | (k_unfold; (try dsimp only)) | row_room_at HE | (k_end; wrow_close) | ((with_reducible show wpAny _ _ (call (Value.builtin "len") _ _) _ _ _); (k_here; (with_reducible show wpAny _ _ (call (Value.builtin "len") [Value.ref _]) _ _ _); refine halt ?_)) | ((with_reducible show wpAny _ _ (execs (Stmt.If (Expr.Compare _ _ _ _) _ _ _ :: _) _) _ _ _); k_here; refine halt ?_) | ((with_reducible show wpAny _ _ (pyIter (Value.ref _)) _ _ _); (k_here; (with_reducible show wpAny _ _ (pyIter _) (fun _ _ => ForAt _ _ _ _ _ _ _ _ _ _ _) _ _); refine halt ?_)) | ((with_reducible show wpAny _ _ (exec (Stmt.For _ _ _ _ _) _) _ _ _); k_here; refine halt ?_) | ((with_reducible show wpAny _ _ (call (Value.ref _) _) _ _ _); k_here; refine halt ?_) | row_room_at HB | (dsimp only; (first | ((with_reducible show wpAny _ _ (call (Value.builtin "len") _ _) _ _ _); (k_here; (with_reducible show wpAny _ _ (call (Value.builtin "len") [Value.ref _]) _ _ _); refine halt ?_)) | ((with_reducible show wpAny _ _ (execs (Stmt.If (Expr.Compare _ _ _ _) _ _ _ :: _) _) _ _ _); k_here; refine halt ?_) | ((with_reducible show wpAny _ _ (pyIter (Value.ref _)) _ _ _); (k_here; (with_reducible show wpAny _ _ (pyIter _) (fun _ _ => ForAt _ _ _ _ _ _ _ _ _ _ _) _ _); refine halt ?_)) | ((with_reducible show wpAny _ _ (exec (Stmt.For _ _ _ _ _) _) _ _ _); k_here; refine halt ?_) | ((with_reducible show wpAny _ _ (call (Value.ref _) _) _ _ _); k_here; refine halt ?_) | walk1 | row_room_at HE)) | (leave1; walk_say "STEP leave1"; try dsimp only)))
    refine go ?_
    refine For_start ?_
    (repeat' (first | (k_unfold; (try dsimp only)) | row_room_at HE | (k_end; wrow_close) | ((with_reducible show wpAny _ _ (call (Value.builtin "len") _ _) _ _ _); (k_here; (with_reducible show wpAny _ _ (call (Value.builtin "len") [Value.ref _]) _ _ _); refine halt ?_)) | ((with_reducible show wpAny _ _ (execs (Stmt.If (Expr.Compare _ _ _ _) _ _ _ :: _) _) _ _ _); k_here; refine halt ?_) | ((with_reducible show wpAny _ _ (pyIter (Value.ref _)) _ _ _); (k_here; (with_reducible show wpAny _ _ (pyIter _) (fun _ _ => ForAt _ _ _ _ _ _ _ _ _ _ _) _ _); refine halt ?_)) | ((with_reducible show wpAny _ _ (exec (Stmt.For _ _ _ _ _) _) _ _ _); k_here; refine halt ?_) | ((with_reducible show wpAny _ _ (call (Value.ref _) _) _ _ _); k_here; refine halt ?_) | row_room_at HB | (dsimp only; (first | ((with_reducible show wpAny _ _ (call (Value.builtin "len") _ _) _ _ _); (k_here; (with_reducible show wpAny _ _ (call (Value.builtin "len") [Value.ref _]) _ _ _); refine halt ?_)) | ((with_reducible show wpAny _ _ (execs (Stmt.If (Expr.Compare _ _ _ _) _ _ _ :: _) _) _ _ _); k_here; refine halt ?_) | ((with_reducible show wpAny _ _ (pyIter (Value.ref _)) _ _ _); (k_here; (with_reducible show wpAny _ _ (pyIter _) (fun _ _ => ForAt _ _ _ _ _ _ _ _ _ _ _) _ _); refine halt ?_)) | ((with_reducible show wpAny _ _ (exec (Stmt.For _ _ _ _ _) _) _ _ _); k_here; refine halt ?_) | ((with_reducible show wpAny _ _ (call (Value.ref _) _) _ _ _); k_here; refine halt ?_) | walk1 | row_room_at HE)) | (leave1; walk_say "STEP leave1"; try dsimp only)))
    refine go ?_
    (with_reducible rename Fr _ _ _ _ => F1)
    (with_reducible rename News _ _ _ _ => N1)
    refine for_list rfl (fun i m news => ∃ (pb : List Value) (np' : Nat), Knows m [("read", .ref D)] ∧ Words pb (ms.take i) ∧ news = [(D, listOf rv.toArray rv.length), (lx.x1, instObj 101 lx.d1), (lx.d1, lexD w lx.a1 lx.b1 lx.c1 lx.e1 lx.tw1 ln (.ref lx.x0) lx.p1), (lx.p1, listOf pb.toArray np'), (M, listOf vM.toArray nM), (L + 1 + 1 + 1 + 1, c4), (L + 1 + 1 + 1, c3), (L + 1 + 1, c2), (L + 1, c1), (159, tabObj #[]), (107, tabObj ps7)]) F1 N1 (.head _) ⟨[], np, ⟨rfl, trivial⟩, .nil, rfl⟩ ?_ ?_ ?_ PassesOwn.never
    · intro i m news jz3
      (refine hideP ?_; intro PP hPP); (obtain ⟨pb, np', _, _, rfl⟩ := jz3) <;> (refine hPP ?_; clear hPP; clear PP)
      exact .head _
    · clear F1 N1 next
      intro I i v m news oI h tk hI hv jz10
      (refine hideP ?_; intro PP hPP); (obtain ⟨pb, np', e1, hpb, rfl⟩ := jz10) <;> (refine hPP ?_; clear hPP; clear PP)
      intro off F N
      replace F := fr_knows e1 F
      clear e1
      (refine hideP ?_; intro PP hPP); (obtain ⟨mm, hmi, hw⟩ := words_get hWd i v hv) <;> (refine hPP ?_; clear hPP; clear PP)
      have hpl : pb.length ≤ 500 := by rw [hpb.len, List.length_take]; omega
      (repeat' (first | (k_unfold; (try dsimp only)) | row_room_at HE | (k_end; wrow_close) | ((with_reducible show wpAny _ _ (call (Value.builtin "len") _ _) _ _ _); (k_here; (with_reducible show wpAny _ _ (call (Value.builtin "len") [Value.ref _]) _ _ _); refine halt ?_)) | ((with_reducible show wpAny _ _ (execs (Stmt.If (Expr.Compare _ _ _ _) _ _ _ :: _) _) _ _ _); k_here; refine halt ?_) | ((with_reducible show wpAny _ _ (pyIter (Value.ref _)) _ _ _); (k_here; (with_reducible show wpAny _ _ (pyIter _) (fun _ _ => ForAt _ _ _ _ _ _ _ _ _ _ _) _ _); refine halt ?_)) | ((with_reducible show wpAny _ _ (exec (Stmt.For _ _ _ _ _) _) _ _ _); k_here; refine halt ?_) | ((with_reducible show wpAny _ _ (call (Value.ref _) _) _ _ _); k_here; refine halt ?_) | row_room_at HB | (dsimp only; (first | ((with_reducible show wpAny _ _ (call (Value.builtin "len") _ _) _ _ _); (k_here; (with_reducible show wpAny _ _ (call (Value.builtin "len") [Value.ref _]) _ _ _); refine halt ?_)) | ((with_reducible show wpAny _ _ (execs (Stmt.If (Expr.Compare _ _ _ _) _ _ _ :: _) _) _ _ _); k_here; refine halt ?_) | ((with_reducible show wpAny _ _ (pyIter (Value.ref _)) _ _ _); (k_here; (with_reducible show wpAny _ _ (pyIter _) (fun _ _ => ForAt _ _ _ _ _ _ _ _ _ _ _) _ _); refine halt ?_)) | ((with_reducible show wpAny _ _ (exec (Stmt.For _ _ _ _ _) _) _ _ _); k_here; refine halt ?_) | ((with_reducible show wpAny _ _ (call (Value.ref _) _) _ _ _); k_here; refine halt ?_) | walk1 | row_room_at HE)) | (leave1; walk_say "STEP leave1"; try dsimp only)))
      refine go ?_
      (with_reducible rename Fr _ _ _ _ => F2)
      (with_reducible rename News _ _ _ _ => N2)
      refine' push_call (pb := pb) (np := np') (ln := ln) (fp := .ref lx.x0) ?e2 ?e3 X' T' ?e5 ⟨o7, o8⟩ hpl (hn_of N2 ?e7) ?_
      (case e2 => (first | exact lim2 hdp rfl | exact lim1 hdp rfl | exact lim2 hun rfl | exact lim1 hun rfl | exact lim0 hdp | exact lim0 hun | exact lim3 hdp rfl | exact lim3 hun rfl | ((try dsimp only [arA, Around.deeper]); omega)))
      (case e3 => (first | exact lim2 hdp rfl | exact lim1 hdp rfl | exact lim2 hun rfl | exact lim1 hun rfl | exact lim0 hdp | exact lim0 hun | exact lim3 hdp rfl | exact lim3 hun rfl | ((try dsimp only [arA, Around.deeper]); omega)))
      (case e5 => exact F2.keep)
      (case e7 =>
        intro q hq
        revert hq
        revert q
        refine' all_cons ?_ (all_cons ?_ (all_cons ?_ (all_nil)))
        all_goals k_mem)
      intro h3 tk3 kp3 eq3
      have F3 := fr_kept1 F2 N2 (.tail _ (.tail _ (.tail _ (.tail _ (.head _))))) kp3
      have hI1 : @Ne Nat lx.p1 I := off (lx.p1, listOf pb.toArray np') (by k_mem)
      have hD1 := hp1 D (by simp)
      have hM1 := hp1 M (by simp)
      have h41 := hp1 (L + 1 + 1 + 1 + 1) (by simp)
      have h31 := hp1 (L + 1 + 1 + 1) (by simp)
      have h21 := hp1 (L + 1 + 1) (by simp)
      have h11 := hp1 (L + 1) (by simp)
      have h01 := hp1 159 (by simp)
      have h07 := hp1 107 (by simp)
      have N3 : News g L h3 [(I, oI), (D, listOf rv.toArray rv.length), (lx.x1, instObj 101 lx.d1), (lx.d1, lexD w lx.a1 lx.b1 lx.c1 lx.e1 lx.tw1 ln (.ref lx.x0) lx.p1), (lx.p1, listOf (pb ++ [v]).toArray (np' + 1)), (M, listOf vM.toArray nM), (L + 1 + 1 + 1 + 1, c4), (L + 1 + 1 + 1, c3), (L + 1 + 1, c2), (L + 1, c1), (159, tabObj #[]), (107, tabObj ps7)] := news_kept1 N2 (by k_upd) kp3 eq3
      clear F2 N2 kp3 eq3
      (repeat' (first | (k_unfold; (try dsimp only)) | row_room_at HE | (k_end; wrow_close) | ((with_reducible show wpAny _ _ (call (Value.builtin "len") _ _) _ _ _); (k_here; (with_reducible show wpAny _ _ (call (Value.builtin "len") [Value.ref _]) _ _ _); refine halt ?_)) | ((with_reducible show wpAny _ _ (execs (Stmt.If (Expr.Compare _ _ _ _) _ _ _ :: _) _) _ _ _); k_here; refine halt ?_) | ((with_reducible show wpAny _ _ (pyIter (Value.ref _)) _ _ _); (k_here; (with_reducible show wpAny _ _ (pyIter _) (fun _ _ => ForAt _ _ _ _ _ _ _ _ _ _ _) _ _); refine halt ?_)) | ((with_reducible show wpAny _ _ (exec (Stmt.For _ _ _ _ _) _) _ _ _); k_here; refine halt ?_) | ((with_reducible show wpAny _ _ (call (Value.ref _) _) _ _ _); k_here; refine halt ?_) | row_room_at HB | (dsimp only; (first | ((with_reducible show wpAny _ _ (call (Value.builtin "len") _ _) _ _ _); (k_here; (with_reducible show wpAny _ _ (call (Value.builtin "len") [Value.ref _]) _ _ _); refine halt ?_)) | ((with_reducible show wpAny _ _ (execs (Stmt.If (Expr.Compare _ _ _ _) _ _ _ :: _) _) _ _ _); k_here; refine halt ?_) | ((with_reducible show wpAny _ _ (pyIter (Value.ref _)) _ _ _); (k_here; (with_reducible show wpAny _ _ (pyIter _) (fun _ _ => ForAt _ _ _ _ _ _ _ _ _ _ _) _ _); refine halt ?_)) | ((with_reducible show wpAny _ _ (exec (Stmt.For _ _ _ _ _) _) _ _ _); k_here; refine halt ?_) | ((with_reducible show wpAny _ _ (call (Value.ref _) _) _ _ _); k_here; refine halt ?_) | walk1 | row_room_at HE)) | (leave1; walk_say "STEP leave1"; try dsimp only)))
      refine fEnd F3 N3 (fun _ hp => hp) (fun q hq => ?_) ⟨_, _, ⟨rfl, trivial⟩, words_take_snoc hpb hmi hw, rfl⟩
      have off' : ∀ a, a ∈ [D, lx.x1, lx.d1, lx.p1, M, L + 1 + 1 + 1 + 1, L + 1 + 1 + 1, L + 1 + 1, L + 1, 159, 107] → @Ne Nat a I := fun a ha => by
        revert ha
        revert a
        refine' all_cons ?_ (all_cons ?_ (all_cons ?_ (all_cons ?_ (all_cons ?_ (all_cons ?_ (all_cons ?_ (all_cons ?_ (all_cons ?_ (all_cons ?_ (all_cons ?_ (all_nil)))))))))))
        · exact off (_, _) (.head _)
        · exact off (_, _) (.tail _ (.head _))
        · exact off (_, _) (.tail _ (.tail _ (.head _)))
        · exact hI1
        · exact off (_, _) (.tail _ (.tail _ (.tail _ (.tail _ (.head _)))))
        · exact off (_, _) (.tail _ (.tail _ (.tail _ (.tail _ (.tail _ (.head _))))))
        · exact off (_, _) (.tail _ (.tail _ (.tail _ (.tail _ (.tail _ (.tail _ (.head _)))))))
        · exact off (_, _) (.tail _ (.tail _ (.tail _ (.tail _ (.tail _ (.tail _ (.tail _ (.head _))))))))
        · exact off (_, _) (.tail _ (.tail _ (.tail _ (.tail _ (.tail _ (.tail _ (.tail _ (.tail _ (.head _)))))))))
        · exact off (_, _) (.tail _ (.tail _ (.tail _ (.tail _ (.tail _ (.tail _ (.tail _ (.tail _ (.tail _ (.head _))))))))))
        · exact off (_, _) (.tail _ (.tail _ (.tail _ (.tail _ (.tail _ (.tail _ (.tail _ (.tail _ (.tail _ (.tail _ (.head _)))))))))))
      refine off' q.1 ?_
      simp only [List.mem_cons, List.not_mem_nil, or_false] at hq ⊢
      rcases hq with rfl | rfl | rfl | rfl | rfl | rfl | rfl | rfl | rfl | rfl | rfl <;> simp
    · intro m news h tk jz4
      (refine hideP ?_; intro PP hPP); (obtain ⟨pb, np', e1, hpb, rfl⟩ := jz4) <;> (refine hPP ?_; clear hPP; clear PP)
      intro F N
      replace F := fr_knows e1 F
      clear e1 F1 N1
      rw [hrvl, List.take_length] at hpb
      (try dsimp only)
      (repeat' (first | (k_unfold; (try dsimp only)) | row_room_at HE | (k_end; wrow_close) | ((with_reducible show wpAny _ _ (call (Value.builtin "len") _ _) _ _ _); (k_here; (with_reducible show wpAny _ _ (call (Value.builtin "len") [Value.ref _]) _ _ _); refine halt ?_)) | ((with_reducible show wpAny _ _ (execs (Stmt.If (Expr.Compare _ _ _ _) _ _ _ :: _) _) _ _ _); k_here; refine halt ?_) | ((with_reducible show wpAny _ _ (pyIter (Value.ref _)) _ _ _); (k_here; (with_reducible show wpAny _ _ (pyIter _) (fun _ _ => ForAt _ _ _ _ _ _ _ _ _ _ _) _ _); refine halt ?_)) | ((with_reducible show wpAny _ _ (exec (Stmt.For _ _ _ _ _) _) _ _ _); k_here; refine halt ?_) | ((with_reducible show wpAny _ _ (call (Value.ref _) _) _ _ _); k_here; refine halt ?_) | row_room_at HB | (dsimp only; (first | ((with_reducible show wpAny _ _ (call (Value.builtin "len") _ _) _ _ _); (k_here; (with_reducible show wpAny _ _ (call (Value.builtin "len") [Value.ref _]) _ _ _); refine halt ?_)) | ((with_reducible show wpAny _ _ (execs (Stmt.If (Expr.Compare _ _ _ _) _ _ _ :: _) _) _ _ _); k_here; refine halt ?_) | ((with_reducible show wpAny _ _ (pyIter (Value.ref _)) _ _ _); (k_here; (with_reducible show wpAny _ _ (pyIter _) (fun _ _ => ForAt _ _ _ _ _ _ _ _ _ _ _) _ _); refine halt ?_)) | ((with_reducible show wpAny _ _ (exec (Stmt.For _ _ _ _ _) _) _ _ _); k_here; refine halt ?_) | ((with_reducible show wpAny _ _ (call (Value.ref _) _) _ _ _); k_here; refine halt ?_) | walk1 | row_room_at HE)) | (leave1; walk_say "STEP leave1"; try dsimp only)))
      refine go ?_
      (with_reducible rename Fr _ _ _ _ => F2)
      (with_reducible rename News _ _ _ _ => N2)
      have hcount : rv.toArray.size = ms.length := by rw [List.size_toArray, hrvl]
      refine KM.len_K (n := ms.length) N2 (.head _) hcount (by omega) ?_
      (repeat' (first | (k_unfold; (try dsimp only)) | row_room_at HE | (k_end; wrow_close) | ((with_reducible show wpAny _ _ (call (Value.builtin "len") _ _) _ _ _); (k_here; (with_reducible show wpAny _ _ (call (Value.builtin "len") [Value.ref _]) _ _ _); refine halt ?_)) | ((with_reducible show wpAny _ _ (execs (Stmt.If (Expr.Compare _ _ _ _) _ _ _ :: _) _) _ _ _); k_here; refine halt ?_) | ((with_reducible show wpAny _ _ (pyIter (Value.ref _)) _ _ _); (k_here; (with_reducible show wpAny _ _ (pyIter _) (fun _ _ => ForAt _ _ _ _ _ _ _ _ _ _ _) _ _); refine halt ?_)) | ((with_reducible show wpAny _ _ (exec (Stmt.For _ _ _ _ _) _) _ _ _); k_here; refine halt ?_) | ((with_reducible show wpAny _ _ (call (Value.ref _) _) _ _ _); k_here; refine halt ?_) | row_room_at HB | (dsimp only; (first | ((with_reducible show wpAny _ _ (call (Value.builtin "len") _ _) _ _ _); (k_here; (with_reducible show wpAny _ _ (call (Value.builtin "len") [Value.ref _]) _ _ _); refine halt ?_)) | ((with_reducible show wpAny _ _ (execs (Stmt.If (Expr.Compare _ _ _ _) _ _ _ :: _) _) _ _ _); k_here; refine halt ?_) | ((with_reducible show wpAny _ _ (pyIter (Value.ref _)) _ _ _); (k_here; (with_reducible show wpAny _ _ (pyIter _) (fun _ _ => ForAt _ _ _ _ _ _ _ _ _ _ _) _ _); refine halt ?_)) | ((with_reducible show wpAny _ _ (exec (Stmt.For _ _ _ _ _) _) _ _ _); k_here; refine halt ?_) | ((with_reducible show wpAny _ _ (call (Value.ref _) _) _ _ _); k_here; refine halt ?_) | walk1 | row_room_at HE)) | (leave1; walk_say "STEP leave1"; try dsimp only)))
      refine go ?_
      (with_reducible rename Fr _ _ _ _ => F3)
      (with_reducible rename News _ _ _ _ => N3)
      refine' down_call (pb := pb) (np := np') (ln := ln) (fp := .ref lx.x0) (ms := ms) ?e2 ?e3 X' T' ?e5 ⟨o7, o8⟩ hpb hms hml (hn_of N3 ?e7) ?_
      (case e2 => (first | exact lim2 hdp rfl | exact lim1 hdp rfl | exact lim2 hun rfl | exact lim1 hun rfl | exact lim0 hdp | exact lim0 hun | exact lim3 hdp rfl | exact lim3 hun rfl | ((try dsimp only [arA, Around.deeper]); omega)))
      (case e3 => (first | exact lim2 hdp rfl | exact lim1 hdp rfl | exact lim2 hun rfl | exact lim1 hun rfl | exact lim0 hdp | exact lim0 hun | exact lim3 hdp rfl | exact lim3 hun rfl | ((try dsimp only [arA, Around.deeper]); omega)))
      (case e5 => exact F3.keep)
      (case e7 =>
        intro q hq
        revert hq
        revert q
        refine' all_cons ?_ (all_cons ?_ (all_cons ?_ (all_nil)))
        all_goals k_mem)
      intro h4 tk4 RD vR nR hvR kp4 eR nR0
      have hM1 := hp1 M (by simp)
      have h41 := hp1 (L + 1 + 1 + 1 + 1) (by simp)
      have h31 := hp1 (L + 1 + 1 + 1) (by simp)
      have h21 := hp1 (L + 1 + 1) (by simp)
      have h11 := hp1 (L + 1) (by simp)
      have h01 := hp1 159 (by simp)
      have h07 := hp1 107 (by simp)
      have hR4 := ne_new (N3 (L + 1 + 1 + 1 + 1, c4) (by k_mem)).1 nR0
      have hR3 := ne_new (N3 (L + 1 + 1 + 1, c3) (by k_mem)).1 nR0
      have hR2 := ne_new (N3 (L + 1 + 1, c2) (by k_mem)).1 nR0
      have hR1 := ne_new (N3 (L + 1, c1) (by k_mem)).1 nR0
      have hR0 := ne_new (N3 (159, tabObj #[]) (by k_mem)).1 nR0
      have N3' : News g L _ [(M, listOf vM.toArray nM), (L + 1 + 1 + 1 + 1, c4), (L + 1 + 1 + 1, c3), (L + 1 + 1, c2), (L + 1, c1), (159, tabObj #[]), (107, tabObj ps7)] := news_sub N3 (fun q hq => by
        revert hq
        revert q
        refine' all_cons ?_ (all_cons ?_ (all_cons ?_ (all_cons ?_ (all_cons ?_ (all_cons ?_ (all_cons ?_ (all_nil)))))))
        all_goals k_mem)
      have F4 := fr_kept1 F3 N3 (.tail _ (.tail _ (.tail _ (.head _)))) kp4
      have N4 := news_new (led := [(RD, listOf vR.toArray nR)]) F3 N3' kp4 (fun q hq => by
        revert hq
        revert q
        refine' all_cons ?_ (all_cons ?_ (all_cons ?_ (all_cons ?_ (all_cons ?_ (all_cons ?_ (all_cons ?_ (all_nil)))))))
        · exact fun e => hM1 (List.mem_singleton.mp e)
        · exact fun e => h41 (List.mem_singleton.mp e)
        · exact fun e => h31 (List.mem_singleton.mp e)
        · exact fun e => h21 (List.mem_singleton.mp e)
        · exact fun e => h11 (List.mem_singleton.mp e)
        · exact fun e => h01 (List.mem_singleton.mp e)
        · exact fun e => h07 (List.mem_singleton.mp e)) (fun q hq => by rw [List.mem_singleton.mp hq]; exact ⟨eR, nR0⟩)
      clear F3 N3 N3' kp4 eR nR0
      dsimp only [List.cons_append, List.nil_append] at N4
      (repeat' (first | (k_unfold; (try dsimp only)) | row_room_at HE | (k_end; wrow_close) | ((with_reducible show wpAny _ _ (call (Value.builtin "len") _ _) _ _ _); (k_here; (with_reducible show wpAny _ _ (call (Value.builtin "len") [Value.ref _]) _ _ _); refine halt ?_)) | ((with_reducible show wpAny _ _ (execs (Stmt.If (Expr.Compare _ _ _ _) _ _ _ :: _) _) _ _ _); k_here; refine halt ?_) | ((with_reducible show wpAny _ _ (pyIter (Value.ref _)) _ _ _); (k_here; (with_reducible show wpAny _ _ (pyIter _) (fun _ _ => ForAt _ _ _ _ _ _ _ _ _ _ _) _ _); refine halt ?_)) | ((with_reducible show wpAny _ _ (exec (Stmt.For _ _ _ _ _) _) _ _ _); k_here; refine halt ?_) | ((with_reducible show wpAny _ _ (call (Value.ref _) _) _ _ _); k_here; refine halt ?_) | row_room_at HB | (dsimp only; (first | ((with_reducible show wpAny _ _ (call (Value.builtin "len") _ _) _ _ _); (k_here; (with_reducible show wpAny _ _ (call (Value.builtin "len") [Value.ref _]) _ _ _); refine halt ?_)) | ((with_reducible show wpAny _ _ (execs (Stmt.If (Expr.Compare _ _ _ _) _ _ _ :: _) _) _ _ _); k_here; refine halt ?_) | ((with_reducible show wpAny _ _ (pyIter (Value.ref _)) _ _ _); (k_here; (with_reducible show wpAny _ _ (pyIter _) (fun _ _ => ForAt _ _ _ _ _ _ _ _ _ _ _) _ _); refine halt ?_)) | ((with_reducible show wpAny _ _ (exec (Stmt.For _ _ _ _ _) _) _ _ _); k_here; refine halt ?_) | ((with_reducible show wpAny _ _ (call (Value.ref _) _) _ _ _); k_here; refine halt ?_) | walk1 | row_room_at HE)) | (leave1; walk_say "STEP leave1"; try dsimp only)))
      refine go ?_
      (with_reducible rename Fr _ _ _ _ => F9)
      (with_reducible rename News _ _ _ _ => N9)
      (repeat row_room_at HE)
      refine' next _ _ _ RD vR nR _ hvR F9 ?n3 ⟨hR4, hR3, hR2, hR1, hR0⟩ N9
      assumption
end

/-! T_s8 -/
theorem flushT_s8 : True ∧ True := by first | (row_walk; done) | (walk1; done) | exact ⟨trivial, trivial⟩
noncomputable def levN (k : Nat) : List Nat := (List.range 32).filter fun m => bitsF 5 m == k
noncomputable def keptN (row : List Nat) (k : Nat) : List Nat := (levN k).filter fun m => row.contains m
theorem levelF_N (k : Nat) : levelF k 31 = (levN k).map fun n : Nat => (n : Int) := rfl
theorem any_row (row : List Nat) (m : Nat) : ((row.map fun n : Nat => (n : Int)).any fun x => x == (m : Int)) = row.contains m := by
  rw [Bool.eq_iff_iff, List.any_eq_true, List.contains_iff_mem, ← mem_rowI (row := row)]
  unfold rowI
  constructor
  · intro jz0
    (refine hideP ?_; intro PP hPP); (obtain ⟨x, hx, e⟩ := jz0) <;> (refine hPP ?_; clear hPP; clear PP)
    rw [beq_iff_eq] at e
    exact e ▸ hx
  · exact fun h => ⟨_, h, beq_self_eq_true _⟩
theorem four_of {α : Type} {l : List α} (h : l.length = 4) : ∃ p0 p1 p2 p3, l = [p0, p1, p2, p3] := by
  match l, h with
  | [p0, p1, p2, p3], _ => exact ⟨p0, p1, p2, p3, rfl⟩
theorem filter_take_snoc {α : Type} (l : List α) (f : α → Bool) {i : Nat} {x : α} (h : l[i]? = some x) : (l.take (i + 1)).filter f = (l.take i).filter f ++ (if f x = true then [x] else []) := by
  rw [List.take_add_one, h, List.filter_append]
  congr 1
  show List.filter f [x] = _
  by_cases hf : f x = true
  · rw [if_pos hf]; simp [hf]
  · rw [if_neg hf]; simp [hf]
open LCg LCt in
theorem compRestT_J {prog : Program} {w : World} {A : Around} {h₀ : Heap} {L : Addr} {m : Str → Option Value} {env : Env} {s : Shared} {ct elt : PySem.Expr} {x : Str} {scope : Scope} {cl : List (Str × Addr)} {S : List (Addr × Obj) → Prop} {P : Nat → Value → Prop} {Fin : List Value → List (Addr × Obj) → Prop} (J : Nat → List Value → List (Addr × Obj) → Prop) {n : Nat}
    (turn : ∀ i ys news v I oI C oC D m₂ h tk (E' : Value → Shared → Prop), i < n → J i ys news → P i v → NsObj oC m₂ → m₂ x = some v → Fr h₀ L h m → News h₀ L h ((I, oI) :: (C, oC) :: (D, lst ys) :: news) → Off3 I C D news → ((@Ne Nat I C) ∧ (@Ne Nat I D) ∧ (@Ne Nat C D)) →
      wpAny (model prog w) A (isTrue ct (compEnvC scope cl C env) (eval ct (compEnvC scope cl C env))) (fun ok s' => if ok = true then
        wpAny (model prog w) A (eval elt (compEnvC scope cl C env)) (CompEnd h₀ L m { s with heap := h, toks := tk } I oI C oC D (lst ys) S (fun y news' => J (i + 1) (ys ++ [y]) news')) E' s'
        else CompEnd h₀ L m { s with heap := h, toks := tk } I oI C oC D (lst ys) S (fun _ news' => J (i + 1) ys news') Value.none s') E' { s with heap := h, toks := tk })
    (fin : ∀ ys news, J n ys news → Fin ys news) : ∀ k i ys news, i + k = n → J i ys news → CompRestT prog w A h₀ L m env ct elt x scope cl s S P Fin k i ys news := by
  intro k
  induction k with
  | zero => intro i ys news e j; obtain rfl : i = n := by omega
            exact CompRestT.zero (fin _ _ j)
  | succ k ih =>
    intro i ys news e j
    refine CompRestT.succ ?_
    intro v I oI C oC D m₂ h tk E' hv hC hx F N off ne
    refine wpAny_mono (turn i ys news v I oI C oC D m₂ h tk E' (by omega) j hv hC hx F N off ne) (fun ok s₂ hq => ?_) fun _ _ e => e
    cases ok with
    | true =>
      rw [if_pos rfl] at hq ⊢
      refine wpAny_mono hq (fun y s₃ hq => ?_) fun _ _ e => e
      (refine hideP ?_; intro PP hPP); (obtain ⟨h', tk', nw, e', F', N', off', hS, j'⟩ := hq) <;> (refine hPP ?_; clear hPP; clear PP)
      exact ⟨h', tk', nw, e', F', N', off', hS, ih (i + 1) _ _ (by omega) j'⟩
    | false =>
      rw [if_neg Bool.false_ne_true] at hq ⊢
      (refine hideP ?_; intro PP hPP); (obtain ⟨h', tk', nw, e', F', N', off', hS, j'⟩ := hq) <;> (refine hPP ?_; clear hPP; clear PP)
      exact ⟨h', tk', nw, e', F', N', off', hS, ih (i + 1) _ _ (by omega) j'⟩
section
local macro_rules | `(tactic| walk_at "CompSrc") => `(tactic| (k_here; refine halt ?_))
theorem s8 {w : World} {p : Program} {loose : List Str} {mean : ExcName → Option Value} {mg mb : Str → Option Value} {dp un : Nat} {fs : Option (List Env)} {gd : Option (List Code)} {g : Heap} {L fa : Addr} {cd : Value} {s : Shared} {Q : Flow → Shared → Prop}
  (hdp : dp + 40 < recursionLimit) (hun : un + 400 < cLine) (X' : (hd.heap_39 w.params).In g) (T' : Top p loose mean mg mb g) (hC1 : CodeHd g 163 159) (hC2 : CodeHd g 111 107)
  (ret : ∀ h' tk', (∀ b o, g.get? b = some o → h'.get? b = some o) → GrownAt 159 h' → GrownAt 107 h' → Q (.ret (.bool true)) { s with heap := h', toks := tk' })
  {ps7 : Array Value}
  {M RD : Addr} {nM nR : Nat} {vM vR : List Value} {row : List Nat} (hvR : IntsAre vR (row.map fun n : Nat => (n : Int))) (hLt : @LT.lt Nat _ 159 L ∧ @LT.lt Nat _ 107 L)
  (hM : @Ne Nat (L + 1 + 1 + 1 + 1) M ∧ @Ne Nat (L + 1 + 1 + 1) M ∧ @Ne Nat (L + 1 + 1) M ∧ @Ne Nat (L + 1) M ∧ @Ne Nat 159 M) (hR : @Ne Nat (L + 1 + 1 + 1 + 1) RD ∧ @Ne Nat (L + 1 + 1 + 1) RD ∧ @Ne Nat (L + 1 + 1) RD ∧ @Ne Nat (L + 1) RD ∧ @Ne Nat 159 RD)
  {m : Str → Option Value} (F : Fr g L s.heap m)
  {c1 c2 c3 c4 : Obj} (hc3 : c3.data = .cell (some (.ref RD)))
  (N : News g L s.heap [(RD, listOf vR.toArray nR), (M, listOf vM.toArray nM), (L + 1 + 1 + 1 + 1, c4), (L + 1 + 1 + 1, c3), (L + 1 + 1, c2), (L + 1, c1), (159, tabObj #[]), (107, tabObj ps7)])
  (next : ∀ h' tk' m' (LV a0 a1 a2 a3 DK b0 b1 b2 b3 : Addr) (nl n0 n1 n2 n3 k0 k1 k2 k3 : Nat) (v0 v1 v2 v3 w0 w1 w2 w3 : List Value), (IntsAre v0 ((levN 0).map fun n : Nat => (n : Int)) ∧ IntsAre v1 ((levN 1).map fun n : Nat => (n : Int)) ∧ IntsAre v2 ((levN 2).map fun n : Nat => (n : Int)) ∧ IntsAre v3 ((levN 3).map fun n : Nat => (n : Int))) →
    (IntsAre w0 ((keptN row 0).map fun n : Nat => (n : Int)) ∧ IntsAre w1 ((keptN row 1).map fun n : Nat => (n : Int)) ∧ IntsAre w2 ((keptN row 2).map fun n : Nat => (n : Int)) ∧ IntsAre w3 ((keptN row 3).map fun n : Nat => (n : Int))) →
    Fr g L h' m' → Knows m' [("levels", .ref LV), ("kept", .ref DK)] → (∀ b ∈ [LV, a0, a1, a2, a3, DK, b0, b1, b2, b3, M], @Ne Nat (L + 1 + 1 + 1 + 1) b) →
    News g L h' [(DK, listOf #[.ref b0, .ref b1, .ref b2, .ref b3] 4), (LV, listOf #[.ref a0, .ref a1, .ref a2, .ref a3] nl), (a0, listOf v0.toArray n0), (a1, listOf v1.toArray n1), (a2, listOf v2.toArray n2), (a3, listOf v3.toArray n3), (b0, listOf w0.toArray k0), (b1, listOf w1.toArray k1), (b2, listOf w2.toArray k2), (b3, listOf w3.toArray k3), (M, listOf vM.toArray nM), (L + 1 + 1 + 1 + 1, c4), (L + 1 + 1 + 1, c3), (L + 1 + 1, c2), (L + 1, c1), (159, tabObj #[]), (107, tabObj ps7)] →
    wpAny (model PySem.Challenge.rw_ty0032_01.row.prog w) ((arA dp un fs gd).deeper (lawEnv L fa cd)) (execs (lawR.body.drop 13) (lawEnv L fa cd)) Q (fun _ _ => False) { s with heap := h', toks := tk' }) :
  wpAny (model PySem.Challenge.rw_ty0032_01.row.prog w) ((arA dp un fs gd).deeper (lawEnv L fa cd)) (execs (lawR.body.drop 11) (lawEnv L fa cd)) Q (fun _ _ => False) s := by
    unfold lawEnv at next ⊢
    dsimp only [lawR, recOf, List.drop] at next ⊢
    (repeat' (first | (k_unfold; (try dsimp only)) | row_room_at HE | (k_end; wrow_close) | ((with_reducible show wpAny _ _ (execs (Stmt.Assign [Expr.Name (Str.ofString "texts") _] _ _ :: _) _) _ _ _); k_here; refine halt ?_) | ((with_reducible show wpAny _ _ (compareOp CmpOp.In (Value.int _ _) (Value.ref _)) _ _ _); (k_here; refine halt ?_)) | ((with_reducible show PyProof.Rows.LCt.CompSrcT _ _ _ _ _ _ _ _ _ _ _ _ _ _ _); (k_here; refine halt ?_)) | ((with_reducible show wpAny _ _ (eval (Expr.ListComp _ _ _ _) _) _ _ _); k_here; refine halt ?_) | ((with_reducible show wpAny _ _ (call (Value.ref _) _) _ _ _); k_here; refine halt ?_) | row_room_at HB | (dsimp only; (first | ((with_reducible show wpAny _ _ (execs (Stmt.Assign [Expr.Name (Str.ofString "texts") _] _ _ :: _) _) _ _ _); k_here; refine halt ?_) | ((with_reducible show wpAny _ _ (compareOp CmpOp.In (Value.int _ _) (Value.ref _)) _ _ _); (k_here; refine halt ?_)) | ((with_reducible show PyProof.Rows.LCt.CompSrcT _ _ _ _ _ _ _ _ _ _ _ _ _ _ _); (k_here; refine halt ?_)) | ((with_reducible show wpAny _ _ (eval (Expr.ListComp _ _ _ _) _) _ _ _); k_here; refine halt ?_) | ((with_reducible show wpAny _ _ (call (Value.ref _) _) _ _ _); k_here; refine halt ?_) | walk1 | row_room_at HE)) | (leave1; walk_say "STEP leave1"; try dsimp only)))
    refine go ?_
    (with_reducible rename Fr _ _ _ _ => F1)
    (with_reducible rename News _ _ _ _ => N1)
    refine' levels_call ?e2 ?e3 X' T' ?e5 ?_
    (case e2 => (first | exact lim2 hdp rfl | exact lim1 hdp rfl | exact lim2 hun rfl | exact lim1 hun rfl | exact lim0 hdp | exact lim0 hun | exact lim3 hdp rfl | exact lim3 hun rfl | ((try dsimp only [arA, Around.deeper]); omega)))
    (case e3 => (first | exact lim2 hdp rfl | exact lim1 hdp rfl | exact lim2 hun rfl | exact lim1 hun rfl | exact lim0 hdp | exact lim0 hun | exact lim3 hdp rfl | exact lim3 hun rfl | ((try dsimp only [arA, Around.deeper]); omega)))
    (case e5 => exact F1.keep)
    intro h2 tk2 LV a0 a1 a2 a3 nl n0 n1 n2 n3 v0 v1 v2 v3 hv0 hv1 hv2 hv3 hord kp2 hnew
    have F2 := fr_kept0 F1 kp2
    have N2 := news_new F1 N1 kp2 (fun q hq => by simp) hnew
    have hneL : ∀ a ∈ [RD, M, L + 1 + 1 + 1 + 1, L + 1 + 1 + 1, L + 1 + 1, L + 1, 159, 107], ∀ b ∈ [LV, a0, a1, a2, a3], @Ne Nat a b := fun a ha b hb => by
      obtain ⟨o, ho⟩ : ∃ o, (a, o) ∈ [(RD, listOf vR.toArray nR), (M, listOf vM.toArray nM), (L + 1 + 1 + 1 + 1, c4), (L + 1 + 1 + 1, c3), (L + 1 + 1, c2), (L + 1, c1), (159, tabObj #[]), (107, tabObj ps7)] := by
        revert ha
        revert a
        refine' all_cons ?_ (all_cons ?_ (all_cons ?_ (all_cons ?_ (all_cons ?_ (all_cons ?_ (all_cons ?_ (all_cons ?_ (all_nil))))))))
        · exact ⟨_, .head _⟩
        · exact ⟨_, .tail _ (.head _)⟩
        · exact ⟨_, .tail _ (.tail _ (.head _))⟩
        · exact ⟨_, .tail _ (.tail _ (.tail _ (.head _)))⟩
        · exact ⟨_, .tail _ (.tail _ (.tail _ (.tail _ (.head _))))⟩
        · exact ⟨_, .tail _ (.tail _ (.tail _ (.tail _ (.tail _ (.head _)))))⟩
        · exact ⟨_, .tail _ (.tail _ (.tail _ (.tail _ (.tail _ (.tail _ (.head _))))))⟩
        · exact ⟨_, .tail _ (.tail _ (.tail _ (.tail _ (.tail _ (.tail _ (.tail _ (.head _)))))))⟩
      obtain ⟨o', ho'⟩ : ∃ o', (b, o') ∈ [(LV, listOf #[.ref a0, .ref a1, .ref a2, .ref a3] nl), (a0, listOf v0.toArray n0), (a1, listOf v1.toArray n1), (a2, listOf v2.toArray n2), (a3, listOf v3.toArray n3)] := by
        revert hb
        revert b
        refine' all_cons ?_ (all_cons ?_ (all_cons ?_ (all_cons ?_ (all_cons ?_ (all_nil)))))
        · exact ⟨_, .head _⟩
        · exact ⟨_, .tail _ (.head _)⟩
        · exact ⟨_, .tail _ (.tail _ (.head _))⟩
        · exact ⟨_, .tail _ (.tail _ (.tail _ (.head _)))⟩
        · exact ⟨_, .tail _ (.tail _ (.tail _ (.tail _ (.head _))))⟩
      exact ne_new (N1 _ ho).1 (hnew _ ho').2
    clear F1 N1 hnew
    dsimp only [List.cons_append, List.nil_append] at N2
    (repeat' (first | (k_unfold; (try dsimp only)) | row_room_at HE | (k_end; wrow_close) | ((with_reducible show wpAny _ _ (execs (Stmt.Assign [Expr.Name (Str.ofString "texts") _] _ _ :: _) _) _ _ _); k_here; refine halt ?_) | ((with_reducible show wpAny _ _ (compareOp CmpOp.In (Value.int _ _) (Value.ref _)) _ _ _); (k_here; refine halt ?_)) | ((with_reducible show PyProof.Rows.LCt.CompSrcT _ _ _ _ _ _ _ _ _ _ _ _ _ _ _); (k_here; refine halt ?_)) | ((with_reducible show wpAny _ _ (eval (Expr.ListComp _ _ _ _) _) _ _ _); k_here; refine halt ?_) | ((with_reducible show wpAny _ _ (call (Value.ref _) _) _ _ _); k_here; refine halt ?_) | row_room_at HB | (dsimp only; (first | ((with_reducible show wpAny _ _ (execs (Stmt.Assign [Expr.Name (Str.ofString "texts") _] _ _ :: _) _) _ _ _); k_here; refine halt ?_) | ((with_reducible show wpAny _ _ (compareOp CmpOp.In (Value.int _ _) (Value.ref _)) _ _ _); (k_here; refine halt ?_)) | ((with_reducible show PyProof.Rows.LCt.CompSrcT _ _ _ _ _ _ _ _ _ _ _ _ _ _ _); (k_here; refine halt ?_)) | ((with_reducible show wpAny _ _ (eval (Expr.ListComp _ _ _ _) _) _ _ _); k_here; refine halt ?_) | ((with_reducible show wpAny _ _ (call (Value.ref _) _) _ _ _); k_here; refine halt ?_) | walk1 | row_room_at HE)) | (leave1; walk_say "STEP leave1"; try dsimp only)))
    refine go ?_
    (with_reducible rename Fr _ _ _ _ => F3)
    (with_reducible rename News _ _ _ _ => N3)
    refine LCg.CompSrc.ledger rfl F3 N3 (.head _) (size_small (by exact Nat.le_of_ble_eq_true rfl)) ?_
    intro gg
    refine compRest_J (fun i ys news => ∃ bl : List (Addr × Obj), bl.length = i ∧ ys = bl.map (fun p => Value.ref p.1) ∧ (∀ j p, bl[j]? = some p → ∃ vs n, p.2 = listOf vs.toArray n ∧ IntsAre vs ((keptN row j).map fun n : Nat => (n : Int))) ∧ (∀ p ∈ bl, ∀ q ∈ ([(LV, listOf #[.ref a0, .ref a1, .ref a2, .ref a3] nl), (a0, listOf v0.toArray n0), (a1, listOf v1.toArray n1), (a2, listOf v2.toArray n2), (a3, listOf v3.toArray n3), (RD, listOf vR.toArray nR), (M, listOf vM.toArray nM), (L + 1 + 1 + 1 + 1, c4), (L + 1 + 1 + 1, c3), (L + 1 + 1, c2), (L + 1, c1), (159, tabObj #[]), (107, tabObj ps7)] : List (Addr × Obj)), @Ne Nat q.1 p.1) ∧
      news = ([(LV, listOf #[.ref a0, .ref a1, .ref a2, .ref a3] nl), (a0, listOf v0.toArray n0), (a1, listOf v1.toArray n1), (a2, listOf v2.toArray n2), (a3, listOf v3.toArray n3), (RD, listOf vR.toArray nR), (M, listOf vM.toArray nM), (L + 1 + 1 + 1 + 1, c4), (L + 1 + 1 + 1, c3), (L + 1 + 1, c2), (L + 1, c1), (159, tabObj #[]), (107, tabObj ps7)] : List (Addr × Obj)) ++ bl) ?_ ?_ _ 0 [] _ (Nat.zero_add _) ⟨[], rfl, rfl, (fun j p e => by simp at e), (fun p hp => nomatch hp), rfl⟩
    · clear F3 N3
      intro i ys news v I oI C oC DD m₂ h tk E' hin jz14
      (refine hideP ?_; intro PP hPP); (obtain ⟨bl, hbl, rfl, hblv, hble, rfl⟩ := jz14) <;> (refine hPP ?_; clear hPP; clear PP)
      intro hv hC hx F N off ne
      obtain ⟨ax, vv, nn, rfl, hvv, hax⟩ : ∃ ax vv nn, v = .ref ax ∧ IntsAre vv (levelF i 31) ∧ (ax, listOf vv.toArray nn) ∈ ([(LV, listOf #[.ref a0, .ref a1, .ref a2, .ref a3] nl), (a0, listOf v0.toArray n0), (a1, listOf v1.toArray n1), (a2, listOf v2.toArray n2), (a3, listOf v3.toArray n3), (RD, listOf vR.toArray nR), (M, listOf vM.toArray nM), (L + 1 + 1 + 1 + 1, c4), (L + 1 + 1 + 1, c3), (L + 1 + 1, c2), (L + 1, c1), (159, tabObj #[]), (107, tabObj ps7)] : List (Addr × Obj)) := by
        have hi4 : i < 4 := hin
        obtain rfl | rfl | rfl | rfl : i = 0 ∨ i = 1 ∨ i = 2 ∨ i = 3 := by omega
        · exact ⟨a0, v0, n0, (Option.some.inj hv).symm, hv0, by k_mem⟩
        · exact ⟨a1, v1, n1, (Option.some.inj hv).symm, hv1, by k_mem⟩
        · exact ⟨a2, v2, n2, (Option.some.inj hv).symm, hv2, by k_mem⟩
        · exact ⟨a3, v3, n3, (Option.some.inj hv).symm, hv3, by k_mem⟩
      have off0 := off
      dsimp only [List.cons_append, List.nil_append] at N
      have hvvl : vv.length = (levN i).length := by rw [hvv.length, levelF_N, List.length_map]
      have hlv : (levN i).length ≤ 32 := Nat.le_trans (List.length_filter_le _ _) (Nat.le_of_eq List.length_range)
      clear off
      (repeat' (first | (k_unfold; (try dsimp only)) | row_room_at HE | (k_end; wrow_close) | ((with_reducible show wpAny _ _ (execs (Stmt.Assign [Expr.Name (Str.ofString "texts") _] _ _ :: _) _) _ _ _); k_here; refine halt ?_) | ((with_reducible show wpAny _ _ (compareOp CmpOp.In (Value.int _ _) (Value.ref _)) _ _ _); (k_here; refine halt ?_)) | ((with_reducible show PyProof.Rows.LCt.CompSrcT _ _ _ _ _ _ _ _ _ _ _ _ _ _ _); (k_here; refine halt ?_)) | ((with_reducible show wpAny _ _ (eval (Expr.ListComp _ _ _ _) _) _ _ _); k_here; refine halt ?_) | ((with_reducible show wpAny _ _ (call (Value.ref _) _) _ _ _); k_here; refine halt ?_) | row_room_at HB | (dsimp only; (first | ((with_reducible show wpAny _ _ (execs (Stmt.Assign [Expr.Name (Str.ofString "texts") _] _ _ :: _) _) _ _ _); k_here; refine halt ?_) | ((with_reducible show wpAny _ _ (compareOp CmpOp.In (Value.int _ _) (Value.ref _)) _ _ _); (k_here; refine halt ?_)) | ((with_reducible show PyProof.Rows.LCt.CompSrcT _ _ _ _ _ _ _ _ _ _ _ _ _ _ _); (k_here; refine halt ?_)) | ((with_reducible show wpAny _ _ (eval (Expr.ListComp _ _ _ _) _) _ _ _); k_here; refine halt ?_) | ((with_reducible show wpAny _ _ (call (Value.ref _) _) _ _ _); k_here; refine halt ?_) | walk1 | row_room_at HE)) | (leave1; walk_say "STEP leave1"; try dsimp only)))
      refine go ?_
      refine LCt.ListComp_T (F₀ := by k_asm) (by with_unfolding_all rfl) (by decide) (by rfl) (by decide) (by rfl) ?_
      (repeat' (first | (k_unfold; (try dsimp only)) | row_room_at HE | (k_end; wrow_close) | ((with_reducible show wpAny _ _ (execs (Stmt.Assign [Expr.Name (Str.ofString "texts") _] _ _ :: _) _) _ _ _); k_here; refine halt ?_) | ((with_reducible show wpAny _ _ (compareOp CmpOp.In (Value.int _ _) (Value.ref _)) _ _ _); (k_here; refine halt ?_)) | ((with_reducible show PyProof.Rows.LCt.CompSrcT _ _ _ _ _ _ _ _ _ _ _ _ _ _ _); (k_here; refine halt ?_)) | ((with_reducible show wpAny _ _ (eval (Expr.ListComp _ _ _ _) _) _ _ _); k_here; refine halt ?_) | ((with_reducible show wpAny _ _ (call (Value.ref _) _) _ _ _); k_here; refine halt ?_) | row_room_at HB | (dsimp only; (first | ((with_reducible show wpAny _ _ (execs (Stmt.Assign [Expr.Name (Str.ofString "texts") _] _ _ :: _) _) _ _ _); k_here; refine halt ?_) | ((with_reducible show wpAny _ _ (compareOp CmpOp.In (Value.int _ _) (Value.ref _)) _ _ _); (k_here; refine halt ?_)) | ((with_reducible show PyProof.Rows.LCt.CompSrcT _ _ _ _ _ _ _ _ _ _ _ _ _ _ _); (k_here; refine halt ?_)) | ((with_reducible show wpAny _ _ (eval (Expr.ListComp _ _ _ _) _) _ _ _); k_here; refine halt ?_) | ((with_reducible show wpAny _ _ (call (Value.ref _) _) _ _ _); k_here; refine halt ?_) | walk1 | row_room_at HE)) | (leave1; walk_say "STEP leave1"; try dsimp only)))
      refine go ?_
      (with_reducible rename Fr _ _ _ _ => F4)
      (with_reducible rename News _ _ _ _ => N4)
      refine LCt.CompSrcT.ledger rfl F4 N4 (.tail _ (.tail _ (.tail _ (List.mem_append_left _ hax)))) (size_small (by simp only [List.size_toArray]; omega)) ?_
      intro gg2
      have hsz2 : vv.toArray.size = (levN i).length := by rw [List.size_toArray, hvvl]
      refine compRestT_J (fun i2 ys2 news2 => IntsAre ys2 ((((levN i).take i2).filter fun m => row.contains m).map fun n : Nat => (n : Int)) ∧ news2 = (I, oI) :: (C, oC) :: (DD, LCg.lst (bl.map fun p => Value.ref p.1)) :: (([(LV, listOf #[.ref a0, .ref a1, .ref a2, .ref a3] nl), (a0, listOf v0.toArray n0), (a1, listOf v1.toArray n1), (a2, listOf v2.toArray n2), (a3, listOf v3.toArray n3), (RD, listOf vR.toArray nR), (M, listOf vM.toArray nM), (L + 1 + 1 + 1 + 1, c4), (L + 1 + 1 + 1, c3), (L + 1 + 1, c2), (L + 1, c1), (159, tabObj #[]), (107, tabObj ps7)] : List (Addr × Obj)) ++ bl)) ?_ ?_ _ 0 [] _ (Nat.zero_add _) ⟨.nil, rfl⟩
      · clear F4 N4
        rintro i2 ys2 news2 v2' I2 oI2 C2 oC2 D2 m₃ h6 tk6 E6 hin2 ⟨hys2, rfl⟩ hv2' hC2' hx2 F N off2 ne2
        rw [hsz2] at hin2
        obtain ⟨mm, hmm⟩ : ∃ mm, (levN i)[i2]? = some mm := ⟨_, List.getElem?_eq_getElem hin2⟩
        obtain ⟨tm, hv3'⟩ := hvv.get i2 (mm : Int) (by rw [levelF_N, List.getElem?_map, hmm]; rfl)
        rw [List.getElem?_toArray, hv3'] at hv2'
        cases hv2'
        have off20 := off2
        clear off2
        dsimp only [List.cons_append, List.nil_append] at N
        (repeat' (first | (k_unfold; (try dsimp only)) | row_room_at HE | (k_end; wrow_close) | ((with_reducible show wpAny _ _ (execs (Stmt.Assign [Expr.Name (Str.ofString "texts") _] _ _ :: _) _) _ _ _); k_here; refine halt ?_) | ((with_reducible show wpAny _ _ (compareOp CmpOp.In (Value.int _ _) (Value.ref _)) _ _ _); (k_here; refine halt ?_)) | ((with_reducible show PyProof.Rows.LCt.CompSrcT _ _ _ _ _ _ _ _ _ _ _ _ _ _ _); (k_here; refine halt ?_)) | ((with_reducible show wpAny _ _ (eval (Expr.ListComp _ _ _ _) _) _ _ _); k_here; refine halt ?_) | ((with_reducible show wpAny _ _ (call (Value.ref _) _) _ _ _); k_here; refine halt ?_) | row_room_at HB | (dsimp only; (first | ((with_reducible show wpAny _ _ (execs (Stmt.Assign [Expr.Name (Str.ofString "texts") _] _ _ :: _) _) _ _ _); k_here; refine halt ?_) | ((with_reducible show wpAny _ _ (compareOp CmpOp.In (Value.int _ _) (Value.ref _)) _ _ _); (k_here; refine halt ?_)) | ((with_reducible show PyProof.Rows.LCt.CompSrcT _ _ _ _ _ _ _ _ _ _ _ _ _ _ _); (k_here; refine halt ?_)) | ((with_reducible show wpAny _ _ (eval (Expr.ListComp _ _ _ _) _) _ _ _); k_here; refine halt ?_) | ((with_reducible show wpAny _ _ (call (Value.ref _) _) _ _ _); k_here; refine halt ?_) | walk1 | row_room_at HE)) | (leave1; walk_say "STEP leave1"; try dsimp only)))
        refine go ?_
        (with_reducible rename Fr _ _ _ _ => F5)
        (with_reducible rename News _ _ _ _ => N5)
        refine' in_list_ints ?q1 hvR ?_
        (case q1 => exact isL (N5 (RD, listOf vR.toArray nR) (by k_mem)).1)
        have hany : ((row.map fun n : Nat => (n : Int)).any fun x => x == (mm : Int)) = row.contains mm := any_row row mm
        rw [hany]
        have hsn := filter_take_snoc (levN i) (fun m => row.contains m) hmm
        by_cases hc : row.contains mm = true
        · rw [hc]
          (repeat' (first | (k_unfold; (try dsimp only)) | row_room_at HE | (k_end; wrow_close) | ((with_reducible show wpAny _ _ (execs (Stmt.Assign [Expr.Name (Str.ofString "texts") _] _ _ :: _) _) _ _ _); k_here; refine halt ?_) | ((with_reducible show wpAny _ _ (compareOp CmpOp.In (Value.int _ _) (Value.ref _)) _ _ _); (k_here; refine halt ?_)) | ((with_reducible show PyProof.Rows.LCt.CompSrcT _ _ _ _ _ _ _ _ _ _ _ _ _ _ _); (k_here; refine halt ?_)) | ((with_reducible show wpAny _ _ (eval (Expr.ListComp _ _ _ _) _) _ _ _); k_here; refine halt ?_) | ((with_reducible show wpAny _ _ (call (Value.ref _) _) _ _ _); k_here; refine halt ?_) | row_room_at HB | (dsimp only; (first | ((with_reducible show wpAny _ _ (execs (Stmt.Assign [Expr.Name (Str.ofString "texts") _] _ _ :: _) _) _ _ _); k_here; refine halt ?_) | ((with_reducible show wpAny _ _ (compareOp CmpOp.In (Value.int _ _) (Value.ref _)) _ _ _); (k_here; refine halt ?_)) | ((with_reducible show PyProof.Rows.LCt.CompSrcT _ _ _ _ _ _ _ _ _ _ _ _ _ _ _); (k_here; refine halt ?_)) | ((with_reducible show wpAny _ _ (eval (Expr.ListComp _ _ _ _) _) _ _ _); k_here; refine halt ?_) | ((with_reducible show wpAny _ _ (call (Value.ref _) _) _ _ _); k_here; refine halt ?_) | walk1 | row_room_at HE)) | (leave1; walk_say "STEP leave1"; try dsimp only)))
          refine LCg.CompEnd.intro F5 N5 _ (fun _ hp => hp) off20 (.inr ⟨listOf vv.toArray nn, .tail _ (.tail _ (.tail _ (List.mem_append_left bl hax))), rfl, nn, rfl⟩) ⟨?_, rfl⟩
          rw [hsn, if_pos hc, List.map_append]
          exact IntsAre.append hys2 (.cons _ _ .nil)
        · rw [Bool.not_eq_true] at hc
          rw [hc]
          (repeat' (first | (k_unfold; (try dsimp only)) | row_room_at HE | (k_end; wrow_close) | ((with_reducible show wpAny _ _ (execs (Stmt.Assign [Expr.Name (Str.ofString "texts") _] _ _ :: _) _) _ _ _); k_here; refine halt ?_) | ((with_reducible show wpAny _ _ (compareOp CmpOp.In (Value.int _ _) (Value.ref _)) _ _ _); (k_here; refine halt ?_)) | ((with_reducible show PyProof.Rows.LCt.CompSrcT _ _ _ _ _ _ _ _ _ _ _ _ _ _ _); (k_here; refine halt ?_)) | ((with_reducible show wpAny _ _ (eval (Expr.ListComp _ _ _ _) _) _ _ _); k_here; refine halt ?_) | ((with_reducible show wpAny _ _ (call (Value.ref _) _) _ _ _); k_here; refine halt ?_) | row_room_at HB | (dsimp only; (first | ((with_reducible show wpAny _ _ (execs (Stmt.Assign [Expr.Name (Str.ofString "texts") _] _ _ :: _) _) _ _ _); k_here; refine halt ?_) | ((with_reducible show wpAny _ _ (compareOp CmpOp.In (Value.int _ _) (Value.ref _)) _ _ _); (k_here; refine halt ?_)) | ((with_reducible show PyProof.Rows.LCt.CompSrcT _ _ _ _ _ _ _ _ _ _ _ _ _ _ _); (k_here; refine halt ?_)) | ((with_reducible show wpAny _ _ (eval (Expr.ListComp _ _ _ _) _) _ _ _); k_here; refine halt ?_) | ((with_reducible show wpAny _ _ (call (Value.ref _) _) _ _ _); k_here; refine halt ?_) | walk1 | row_room_at HE)) | (leave1; walk_say "STEP leave1"; try dsimp only)))
          refine LCg.CompEnd.intro F5 N5 _ (fun _ hp => hp) off20 (.inr ⟨listOf vv.toArray nn, .tail _ (.tail _ (.tail _ (List.mem_append_left bl hax))), rfl, nn, rfl⟩) ⟨?_, rfl⟩
          rw [hsn, if_neg (by rw [hc]; exact Bool.false_ne_true), List.append_nil]
          exact hys2
      · rintro ys2 news2 ⟨hys2, rfl⟩
        rw [hsz2, List.take_length] at hys2
        unfold LCg.FinE
        intro D2 h7 tk7 F7 N7 o7
        (try dsimp only)
        have o7' := LCg_off1 o7
        have offm := off0.mem
        refine LCg.CompEnd.intro F7 N7 (([(LV, listOf #[.ref a0, .ref a1, .ref a2, .ref a3] nl), (a0, listOf v0.toArray n0), (a1, listOf v1.toArray n1), (a2, listOf v2.toArray n2), (a3, listOf v3.toArray n3), (RD, listOf vR.toArray nR), (M, listOf vM.toArray nM), (L + 1 + 1 + 1 + 1, c4), (L + 1 + 1 + 1, c3), (L + 1 + 1, c2), (L + 1, c1), (159, tabObj #[]), (107, tabObj ps7)] : List (Addr × Obj)) ++ (bl ++ [(D2, LCg.lst ys2)])) (fun p hp => ?_) (LCg.Off3.of fun p hp => ?_) (.inr ⟨_, .head _, rfl, _, rfl⟩) ⟨bl ++ [(D2, LCg.lst ys2)], by rw [List.length_append, hbl]; rfl, by rw [List.map_append]; rfl, fun j p hj => ?_, fun p hp q hq => ?_, rfl⟩
        · rcases List.mem_cons.mp hp with rfl | hp
          · exact .tail _ (.head _)
          rcases List.mem_cons.mp hp with rfl | hp
          · exact .tail _ (.tail _ (.head _))
          rcases List.mem_cons.mp hp with rfl | hp
          · exact .tail _ (.tail _ (.tail _ (.head _)))
          rcases List.mem_append.mp hp with hp | hp
          · exact .tail _ (.tail _ (.tail _ (.tail _ (List.mem_append_left _ hp))))
          rcases List.mem_append.mp hp with hp | hp
          · exact .tail _ (.tail _ (.tail _ (.tail _ (List.mem_append_right _ hp))))
          · rw [List.mem_singleton.mp hp]; exact .head _
        · rcases List.mem_append.mp hp with hp | hp
          · exact offm p (List.mem_append_left _ hp)
          rcases List.mem_append.mp hp with hp | hp
          · exact offm p (List.mem_append_right _ hp)
          · rw [List.mem_singleton.mp hp]
            exact ⟨Ne.symm (o7' (I, oI) (.head _)), Ne.symm (o7' (C, oC) (.tail _ (.head _))), Ne.symm (o7' (DD, _) (.tail _ (.tail _ (.head _))))⟩
        · rcases Nat.lt_or_ge j bl.length with hjl | hjl
          · rw [List.getElem?_append_left hjl] at hj
            exact hblv j p hj
          · rw [List.getElem?_append_right hjl] at hj
            have hj0 : j - bl.length = 0 := by
              rcases Nat.eq_zero_or_pos (j - bl.length) with e | e
              · exact e
              · rw [List.getElem?_eq_none (by rw [List.length_singleton]; exact e)] at hj; cases hj
            rw [hj0] at hj
            cases hj
            have : j = i := by omega
            subst this
            exact ⟨ys2, ys2.length, rfl, hys2⟩
        · rcases List.mem_append.mp hp with hp | hp
          · exact hble p hp q hq
          · rw [List.mem_singleton.mp hp]
            exact o7' q (.tail _ (.tail _ (.tail _ (List.mem_append_left _ hq))))
    · intro ys news jz2
      (refine hideP ?_; intro PP hPP); (obtain ⟨bl, hbl, rfl, hblv, hble, rfl⟩ := jz2) <;> (refine hPP ?_; clear hPP; clear PP)
      unfold LCg.FinA
      intro DK h8 tk8 F8 N8 o8
      (try dsimp only)
      clear F3 N3
      obtain ⟨⟨b0, bo0⟩, ⟨b1, bo1⟩, ⟨b2, bo2⟩, ⟨b3, bo3⟩, rfl⟩ : ∃ p0 p1 p2 p3, bl = [p0, p1, p2, p3] := four_of hbl
      (refine hideP ?_; intro PP hPP); (obtain ⟨w0, k0, e0, hw0⟩ := hblv 0 _ rfl) <;> (refine hPP ?_; clear hPP; clear PP)
      (refine hideP ?_; intro PP hPP); (obtain ⟨w1, k1, e1, hw1⟩ := hblv 1 _ rfl) <;> (refine hPP ?_; clear hPP; clear PP)
      (refine hideP ?_; intro PP hPP); (obtain ⟨w2, k2, e2, hw2⟩ := hblv 2 _ rfl) <;> (refine hPP ?_; clear hPP; clear PP)
      (refine hideP ?_; intro PP hPP); (obtain ⟨w3, k3, e3, hw3⟩ := hblv 3 _ rfl) <;> (refine hPP ?_; clear hPP; clear PP)
      dsimp only at e0 e1 e2 e3
      subst e0 e1 e2 e3
      have N9 : News g L h8 ((DK, listOf #[.ref b0, .ref b1, .ref b2, .ref b3] 4) :: (([(LV, listOf #[.ref a0, .ref a1, .ref a2, .ref a3] nl), (a0, listOf v0.toArray n0), (a1, listOf v1.toArray n1), (a2, listOf v2.toArray n2), (a3, listOf v3.toArray n3), (RD, listOf vR.toArray nR), (M, listOf vM.toArray nM), (L + 1 + 1 + 1 + 1, c4), (L + 1 + 1 + 1, c3), (L + 1 + 1, c2), (L + 1, c1), (159, tabObj #[]), (107, tabObj ps7)] : List (Addr × Obj)) ++ [(b0, listOf w0.toArray k0), (b1, listOf w1.toArray k1), (b2, listOf w2.toArray k2), (b3, listOf w3.toArray k3)])) := N8
      clear N8
      dsimp only [List.cons_append, List.nil_append] at N9
      have o8' := LCg_off1 o8
      have hbe : ∀ b o, (b, o) ∈ [(b0, listOf w0.toArray k0), (b1, listOf w1.toArray k1), (b2, listOf w2.toArray k2), (b3, listOf w3.toArray k3)] → @Ne Nat (L + 1 + 1 + 1 + 1) b := fun b o hb => hble (b, o) hb (L + 1 + 1 + 1 + 1, c4) (.tail _ (.tail _ (.tail _ (.tail _ (.tail _ (.tail _ (.tail _ (.head _))))))))
      (repeat row_room_at HE)
      refine next _ _ _ LV a0 a1 a2 a3 DK b0 b1 b2 b3 nl n0 n1 n2 n3 k0 k1 k2 k3 v0 v1 v2 v3 w0 w1 w2 w3 ⟨hv0, hv1, hv2, hv3⟩ ⟨hw0, hw1, hw2, hw3⟩ F8 ⟨rfl, rfl, trivial⟩ (fun b hb => ?_) (news_sub N9 fun q hq => ?_)
      · revert hb
        revert b
        refine' all_cons ?_ (all_cons ?_ (all_cons ?_ (all_cons ?_ (all_cons ?_ (all_cons ?_ (all_cons ?_ (all_cons ?_ (all_cons ?_ (all_cons ?_ (all_cons ?_ (all_nil)))))))))))
        · exact hneL _ (by simp) _ (.head _)
        · exact hneL _ (by simp) _ (.tail _ (.head _))
        · exact hneL _ (by simp) _ (.tail _ (.tail _ (.head _)))
        · exact hneL _ (by simp) _ (.tail _ (.tail _ (.tail _ (.head _))))
        · exact hneL _ (by simp) _ (.tail _ (.tail _ (.tail _ (.tail _ (.head _)))))
        · exact o8' (L + 1 + 1 + 1 + 1, c4) (List.mem_append_left _ (.tail _ (.tail _ (.tail _ (.tail _ (.tail _ (.tail _ (.tail _ (.head _)))))))))
        · exact hbe _ _ (.head _)
        · exact hbe _ _ (.tail _ (.head _))
        · exact hbe _ _ (.tail _ (.tail _ (.head _)))
        · exact hbe _ _ (.tail _ (.tail _ (.tail _ (.head _))))
        · exact hM.1
      · revert hq
        revert q
        refine' all_cons ?_ (all_cons ?_ (all_cons ?_ (all_cons ?_ (all_cons ?_ (all_cons ?_ (all_cons ?_ (all_cons ?_ (all_cons ?_ (all_cons ?_ (all_cons ?_ (all_cons ?_ (all_cons ?_ (all_cons ?_ (all_cons ?_ (all_cons ?_ (all_cons ?_ (all_nil)))))))))))))))))
        all_goals k_mem
end

/-! T_s9 -/
theorem flushT_s9 : True ∧ True := by first | (row_walk; done) | (walk1; done) | exact ⟨trivial, trivial⟩
theorem pretty_at {w : World} {p : Program} {loose : List Str} {mean : ExcName → Option Value} {mg mb : Str → Option Value} {dp un : Nat} {fs : Option (List Env)} {gd : Option (List Code)} {h₀ : Heap} {s : Shared} {Q E : Value → Shared → Prop}
  (hdp : dp + 4 < recursionLimit) (hun : un + 32 < cLine)
  (X₀ : (hd.heap_39 w.params).In h₀) (T : Top p loose mean mg mb h₀) (st : h₀.StaysIn s.heap)
  {mask : Nat} {t1 : Tok} (hm : mask < 32)
  (ret : ∀ t h' tk', Kept s.heap h' [] → Q (.str (prettyF mask) t) { s with heap := h', toks := tk' }) :
  wpAny (model PySem.Challenge.rw_ty0032_01.row.prog w) (arA dp un fs gd) (call (.ref 22) [.int ((mask : Int) + 32) t1]) Q E s := by
  have e : (mask : Int) + 32 = ((mask + 32 : Nat) : Int) := by omega
  rw [e]
  exact pretty_call hdp hun X₀ T st hm ret
section
theorem s9 {w : World} {p : Program} {loose : List Str} {mean : ExcName → Option Value} {mg mb : Str → Option Value} {dp un : Nat} {fs : Option (List Env)} {gd : Option (List Code)} {g : Heap} {L fa : Addr} {cd : Value} {s : Shared} {Q : Flow → Shared → Prop}
  (hdp : dp + 40 < recursionLimit) (hun : un + 400 < cLine) (X' : (hd.heap_39 w.params).In g) (T' : Top p loose mean mg mb g) (hC1 : CodeHd g 163 159) (hC2 : CodeHd g 111 107)
  (ret : ∀ h' tk', (∀ b o, g.get? b = some o → h'.get? b = some o) → GrownAt 159 h' → GrownAt 107 h' → Q (.ret (.bool true)) { s with heap := h', toks := tk' })
  {ps7 : Array Value}
  {LV a0 a1 a2 a3 DK b0 b1 b2 b3 M : Addr} {nl n0 n1 n2 n3 k0 k1 k2 k3 nM : Nat} {v0 v1 v2 v3 w0 w1 w2 w3 vM : List Value} {ms : List Nat} (hvM : IntsAre vM (ms.map fun n : Nat => (n : Int))) (hml : ms.length ≤ 3) (hms : ∀ m ∈ ms, m < 32) (hLt : @LT.lt Nat _ 159 L ∧ @LT.lt Nat _ 107 L)
  {m : Str → Option Value} (F : Fr g L s.heap m) (hm : Knows m [("levels", .ref LV), ("kept", .ref DK)])
  {c1 c2 c3 c4 : Obj} (hc1 : c1.data = .cell (some (.ref M))) (hc4 : c4.data = .cell none)
  (hne : ∀ b ∈ [LV, a0, a1, a2, a3, DK, b0, b1, b2, b3, M], @Ne Nat (L + 1 + 1 + 1 + 1) b)
  (N : News g L s.heap [(DK, listOf #[.ref b0, .ref b1, .ref b2, .ref b3] 4), (LV, listOf #[.ref a0, .ref a1, .ref a2, .ref a3] nl), (a0, listOf v0.toArray n0), (a1, listOf v1.toArray n1), (a2, listOf v2.toArray n2), (a3, listOf v3.toArray n3), (b0, listOf w0.toArray k0), (b1, listOf w1.toArray k1), (b2, listOf w2.toArray k2), (b3, listOf w3.toArray k3), (M, listOf vM.toArray nM), (L + 1 + 1 + 1 + 1, c4), (L + 1 + 1 + 1, c3), (L + 1 + 1, c2), (L + 1, c1), (159, tabObj #[]), (107, tabObj ps7)])
  (next : ∀ h' tk' m' (TX : Addr) (vT : List Value) (nT : Nat) (c4' : Obj), StrsAre vT (ms.map prettyF) → Fr g L h' m' → Knows m' [("levels", .ref LV), ("kept", .ref DK)] → c4'.data = .cell (some (.ref TX)) →
    News g L h' [(TX, listOf vT.toArray nT), (DK, listOf #[.ref b0, .ref b1, .ref b2, .ref b3] 4), (LV, listOf #[.ref a0, .ref a1, .ref a2, .ref a3] nl), (a0, listOf v0.toArray n0), (a1, listOf v1.toArray n1), (a2, listOf v2.toArray n2), (a3, listOf v3.toArray n3), (b0, listOf w0.toArray k0), (b1, listOf w1.toArray k1), (b2, listOf w2.toArray k2), (b3, listOf w3.toArray k3), (L + 1 + 1 + 1 + 1, c4'), (159, tabObj #[]), (107, tabObj ps7)] →
    wpAny (model PySem.Challenge.rw_ty0032_01.row.prog w) ((arA dp un fs gd).deeper (lawEnv L fa cd)) (execs (lawR.body.drop 14) (lawEnv L fa cd)) Q (fun _ _ => False) { s with heap := h', toks := tk' }) :
  wpAny (model PySem.Challenge.rw_ty0032_01.row.prog w) ((arA dp un fs gd).deeper (lawEnv L fa cd)) (execs (lawR.body.drop 13) (lawEnv L fa cd)) Q (fun _ _ => False) s := by
    unfold lawEnv at next ⊢
    dsimp only [lawR, recOf, List.drop] at next ⊢
    replace F := fr_knows hm F
    clear hm
    have hvMl : vM.length = ms.length := by rw [hvM.length, List.length_map]
    (repeat' (first | (k_unfold; (try dsimp only)) | row_room_at HE | (k_end; wrow_close) | ((with_reducible show wpAny _ _ (execs (Stmt.For _ _ _ _ _ :: _) _) _ _ _); k_here; refine halt ?_) | ((with_reducible show PyProof.Rows.LCg.CompSrc _ _ _ _ _ _ _ _ _ _ _ _ _ _); (k_here; refine halt ?_)) | ((with_reducible show wpAny _ _ (eval (Expr.ListComp _ _ _ _) _) _ _ _); k_here; refine halt ?_) | ((with_reducible show wpAny _ _ (call (Value.ref _) _) _ _ _); k_here; refine halt ?_) | row_room_at HB | (dsimp only; (first | ((with_reducible show wpAny _ _ (execs (Stmt.For _ _ _ _ _ :: _) _) _ _ _); k_here; refine halt ?_) | ((with_reducible show PyProof.Rows.LCg.CompSrc _ _ _ _ _ _ _ _ _ _ _ _ _ _); (k_here; refine halt ?_)) | ((with_reducible show wpAny _ _ (eval (Expr.ListComp _ _ _ _) _) _ _ _); k_here; refine halt ?_) | ((with_reducible show wpAny _ _ (call (Value.ref _) _) _ _ _); k_here; refine halt ?_) | walk1 | row_room_at HE)) | (leave1; walk_say "STEP leave1"; try dsimp only)))
    refine go ?_
    refine LCg.ListComp_U (F₀ := by k_asm) (by with_unfolding_all rfl) (by decide) (by rfl) (by decide) (by rfl) ?_
    (repeat' (first | (k_unfold; (try dsimp only)) | row_room_at HE | (k_end; wrow_close) | ((with_reducible show wpAny _ _ (execs (Stmt.For _ _ _ _ _ :: _) _) _ _ _); k_here; refine halt ?_) | ((with_reducible show PyProof.Rows.LCg.CompSrc _ _ _ _ _ _ _ _ _ _ _ _ _ _); (k_here; refine halt ?_)) | ((with_reducible show wpAny _ _ (eval (Expr.ListComp _ _ _ _) _) _ _ _); k_here; refine halt ?_) | ((with_reducible show wpAny _ _ (call (Value.ref _) _) _ _ _); k_here; refine halt ?_) | row_room_at HB | (dsimp only; (first | ((with_reducible show wpAny _ _ (execs (Stmt.For _ _ _ _ _ :: _) _) _ _ _); k_here; refine halt ?_) | ((with_reducible show PyProof.Rows.LCg.CompSrc _ _ _ _ _ _ _ _ _ _ _ _ _ _); (k_here; refine halt ?_)) | ((with_reducible show wpAny _ _ (eval (Expr.ListComp _ _ _ _) _) _ _ _); k_here; refine halt ?_) | ((with_reducible show wpAny _ _ (call (Value.ref _) _) _ _ _); k_here; refine halt ?_) | walk1 | row_room_at HE)) | (leave1; walk_say "STEP leave1"; try dsimp only)))
    refine go ?_
    (with_reducible rename Fr _ _ _ _ => F3)
    (with_reducible rename News _ _ _ _ => N3)
    refine LCg.CompSrc.ledger rfl F3 N3 (its := vM.toArray) (k := nM) (by k_mem) (size_small (by simp only [List.size_toArray]; omega)) ?_
    intro gg
    have hsz : vM.toArray.size = ms.length := by rw [List.size_toArray, hvMl]
    refine compRest_J (fun i ys news => StrsAre ys ((ms.take i).map prettyF) ∧ news = [(DK, listOf #[.ref b0, .ref b1, .ref b2, .ref b3] 4), (LV, listOf #[.ref a0, .ref a1, .ref a2, .ref a3] nl), (a0, listOf v0.toArray n0), (a1, listOf v1.toArray n1), (a2, listOf v2.toArray n2), (a3, listOf v3.toArray n3), (b0, listOf w0.toArray k0), (b1, listOf w1.toArray k1), (b2, listOf w2.toArray k2), (b3, listOf w3.toArray k3), (M, listOf vM.toArray nM), (L + 1 + 1 + 1 + 1, c4), (L + 1 + 1 + 1, c3), (L + 1 + 1, c2), (L + 1, c1), (159, tabObj #[]), (107, tabObj ps7)]) ?_ ?_ _ 0 [] _ (Nat.zero_add _) ⟨.nil, rfl⟩
    · clear F3 N3 next
      rintro i ys news v I oI C oC DD m₂ h tk E' hin ⟨hys, rfl⟩ hv hC hx F N off ne
      rw [hsz] at hin
      obtain ⟨mm, hmm⟩ : ∃ mm, ms[i]? = some mm := ⟨_, List.getElem?_eq_getElem hin⟩
      obtain ⟨tm, hv3'⟩ := hvM.get i (mm : Int) (by rw [List.getElem?_map, hmm]; rfl)
      rw [List.getElem?_toArray, hv3'] at hv
      cases hv
      have hm32 := hms mm (List.mem_of_getElem? hmm)
      have off0 := off
      clear off
      (repeat' (first | (k_unfold; (try dsimp only)) | row_room_at HE | (k_end; wrow_close) | ((with_reducible show wpAny _ _ (execs (Stmt.For _ _ _ _ _ :: _) _) _ _ _); k_here; refine halt ?_) | ((with_reducible show PyProof.Rows.LCg.CompSrc _ _ _ _ _ _ _ _ _ _ _ _ _ _); (k_here; refine halt ?_)) | ((with_reducible show wpAny _ _ (eval (Expr.ListComp _ _ _ _) _) _ _ _); k_here; refine halt ?_) | ((with_reducible show wpAny _ _ (call (Value.ref _) _) _ _ _); k_here; refine halt ?_) | row_room_at HB | (dsimp only; (first | ((with_reducible show wpAny _ _ (execs (Stmt.For _ _ _ _ _ :: _) _) _ _ _); k_here; refine halt ?_) | ((with_reducible show PyProof.Rows.LCg.CompSrc _ _ _ _ _ _ _ _ _ _ _ _ _ _); (k_here; refine halt ?_)) | ((with_reducible show wpAny _ _ (eval (Expr.ListComp _ _ _ _) _) _ _ _); k_here; refine halt ?_) | ((with_reducible show wpAny _ _ (call (Value.ref _) _) _ _ _); k_here; refine halt ?_) | walk1 | row_room_at HE)) | (leave1; walk_say "STEP leave1"; try dsimp only)))
      refine go ?_
      (with_reducible rename Fr _ _ _ _ => F4)
      (with_reducible rename News _ _ _ _ => N4)
      refine' pretty_at ?pa ?pb X' T' ?pst hm32 ?_
      (case pa => (first | exact lim2 hdp rfl | exact lim1 hdp rfl | exact lim2 hun rfl | exact lim1 hun rfl | exact lim0 hdp | exact lim0 hun | exact lim3 hdp rfl | exact lim3 hun rfl | ((try dsimp only [arA, Around.deeper]); omega)))
      (case pb => (first | exact lim2 hdp rfl | exact lim1 hdp rfl | exact lim2 hun rfl | exact lim1 hun rfl | exact lim0 hdp | exact lim0 hun | exact lim3 hdp rfl | exact lim3 hun rfl | ((try dsimp only [arA, Around.deeper]); omega)))
      (case pst => exact F4.keep)
      intro t5 h5 tk5 kp5
      have F5 := fr_kept0 F4 kp5
      have N5 := news_kept0 N4 kp5
      clear kp5 F4 N4
      (try dsimp only)
      (repeat (first | (k_unfold; (try dsimp only)) | row_room_at HE | dsimp only))
      (try dsimp only)
      refine LCg.CompEnd.intro F5 N5 _ (fun _ hp => hp) off0 (.inr ⟨listOf vM.toArray nM, by k_mem, rfl, nM, rfl⟩) ⟨?_, rfl⟩
      rw [List.take_add_one, hmm, List.map_append]
      exact strs_snoc hys _ _
    · rintro ys news ⟨hys, rfl⟩ TX h6 tk6 F6 N6 off6
      rw [hsz, List.take_length] at hys
      have oL := LCg_off1 off6 (L + 1 + 1 + 1 + 1, c4) (by k_mem)
      have q1 := hne LV (by simp)
      have q2 := hne a0 (by simp)
      have q3 := hne a1 (by simp)
      have q4 := hne a2 (by simp)
      have q5 := hne a3 (by simp)
      have q6 := hne DK (by simp)
      have q7 := hne b0 (by simp)
      have q8 := hne b1 (by simp)
      have q9 := hne b2 (by simp)
      have q10 := hne b3 (by simp)
      have q11 := hne M (by simp)
      dsimp only at oL
      clear F3 N3
      (repeat' (first | (k_unfold; (try dsimp only)) | row_room_at HE | (k_end; wrow_close) | ((with_reducible show wpAny _ _ (execs (Stmt.For _ _ _ _ _ :: _) _) _ _ _); k_here; refine halt ?_) | ((with_reducible show PyProof.Rows.LCg.CompSrc _ _ _ _ _ _ _ _ _ _ _ _ _ _); (k_here; refine halt ?_)) | ((with_reducible show wpAny _ _ (eval (Expr.ListComp _ _ _ _) _) _ _ _); k_here; refine halt ?_) | ((with_reducible show wpAny _ _ (call (Value.ref _) _) _ _ _); k_here; refine halt ?_) | row_room_at HB | (dsimp only; (first | ((with_reducible show wpAny _ _ (execs (Stmt.For _ _ _ _ _ :: _) _) _ _ _); k_here; refine halt ?_) | ((with_reducible show PyProof.Rows.LCg.CompSrc _ _ _ _ _ _ _ _ _ _ _ _ _ _); (k_here; refine halt ?_)) | ((with_reducible show wpAny _ _ (eval (Expr.ListComp _ _ _ _) _) _ _ _); k_here; refine halt ?_) | ((with_reducible show wpAny _ _ (call (Value.ref _) _) _ _ _); k_here; refine halt ?_) | walk1 | row_room_at HE)) | (leave1; walk_say "STEP leave1"; try dsimp only)))
      refine go ?_
      (with_reducible rename Fr _ _ _ _ => F9)
      (with_reducible rename News _ _ _ _ => N9)
      (repeat row_room_at HE)
      refine' next _ _ _ TX ys ys.length _ hys F9 ?n2 ?n3 (news_sub N9 fun q hq => ?_)
      (case n2 => exact ⟨rfl, rfl, trivial⟩)
      (case n3 => assumption)
      revert hq
      revert q
      refine' all_cons ?_ (all_cons ?_ (all_cons ?_ (all_cons ?_ (all_cons ?_ (all_cons ?_ (all_cons ?_ (all_cons ?_ (all_cons ?_ (all_cons ?_ (all_cons ?_ (all_cons ?_ (all_cons ?_ (all_cons ?_ (all_nil))))))))))))))
      all_goals k_mem
end

/-! T_s10 -/
theorem flushT_s10 : True ∧ True := by first | (row_walk; done) | (walk1; done) | exact ⟨trivial, trivial⟩
noncomputable def liesN (ms : List Nat) (mask : Nat) : Bool := ms.any fun m => mask &&& m == mask
theorem levN_mem {k m : Nat} (h : m ∈ levN k) : m < 32 ∧ bitsF 5 m = k := by
  unfold levN at h
  rw [List.mem_filter, List.mem_range, beq_iff_eq] at h
  exact h
theorem ints3_at {t0 t1 t2 : Tok} {j : Nat} {a b c : Int} {v : Value} (h : (#[.int a t0, .int b t1, .int c t2] : Array Value)[j]? = some v) : j < 3 ∧ ∃ t, v = .int ([a, b, c].getD j 0) t := by
  obtain ⟨hj, e⟩ := Array.getElem?_eq_some_iff.mp h
  have hj5 : j < 3 := hj
  refine ⟨hj5, ?_⟩
  obtain rfl | rfl | rfl : j = 0 ∨ j = 1 ∨ j = 2 := by omega
  all_goals exact ⟨_, e.symm⟩
section
theorem s10 {w : World} {p : Program} {loose : List Str} {mean : ExcName → Option Value} {mg mb : Str → Option Value} {dp un : Nat} {fs : Option (List Env)} {gd : Option (List Code)} {g : Heap} {L fa : Addr} {cd : Value} {s : Shared} {Q : Flow → Shared → Prop}
  (hdp : dp + 40 < recursionLimit) (hun : un + 400 < cLine) (X' : (hd.heap_39 w.params).In g) (T' : Top p loose mean mg mb g) (hC1 : CodeHd g 163 159) (hC2 : CodeHd g 111 107)
  (ret : ∀ h' tk', (∀ b o, g.get? b = some o → h'.get? b = some o) → GrownAt 159 h' → GrownAt 107 h' → Q (.ret (.bool true)) { s with heap := h', toks := tk' })
  {ps7 : Array Value}
  {TX LV a0 a1 a2 a3 DK b0 b1 b2 b3 : Addr} {nl n0 n1 n2 n3 k0 k1 k2 k3 nT : Nat} {v0 v1 v2 v3 w0 w1 w2 w3 vT : List Value} {ms row : List Nat} (hms : ∀ m ∈ ms, m < 32) (hvT : StrsAre vT (ms.map prettyF))
  (hv : IntsAre v0 ((levN 0).map fun n : Nat => (n : Int)) ∧ IntsAre v1 ((levN 1).map fun n : Nat => (n : Int)) ∧ IntsAre v2 ((levN 2).map fun n : Nat => (n : Int)) ∧ IntsAre v3 ((levN 3).map fun n : Nat => (n : Int)))
  (hw : IntsAre w0 ((keptN row 0).map fun n : Nat => (n : Int)) ∧ IntsAre w1 ((keptN row 1).map fun n : Nat => (n : Int)) ∧ IntsAre w2 ((keptN row 2).map fun n : Nat => (n : Int)) ∧ IntsAre w3 ((keptN row 3).map fun n : Nat => (n : Int)))
  (hkept : ∀ k, (levN k).filter (liesN ms) = keptN row k)
  {m : Str → Option Value} (F : Fr g L s.heap m) (hm : Knows m [("levels", .ref LV), ("kept", .ref DK)])
  {c4 : Obj} (hc4 : c4.data = .cell (some (.ref TX)))
  (N : News g L s.heap ([(TX, listOf vT.toArray nT), (DK, listOf #[.ref b0, .ref b1, .ref b2, .ref b3] 4), (LV, listOf #[.ref a0, .ref a1, .ref a2, .ref a3] nl), (a0, listOf v0.toArray n0), (a1, listOf v1.toArray n1), (a2, listOf v2.toArray n2), (a3, listOf v3.toArray n3), (b0, listOf w0.toArray k0), (b1, listOf w1.toArray k1), (b2, listOf w2.toArray k2), (b3, listOf w3.toArray k3), (L + 1 + 1 + 1 + 1, c4), (159, tabObj #[]), (107, tabObj ps7)] : List (Addr × Obj)))
  (next : ∀ h' tk' m', Fr g L h' m' → Knows m' [("levels", .ref LV), ("kept", .ref DK)] → News g L h' ([(TX, listOf vT.toArray nT), (DK, listOf #[.ref b0, .ref b1, .ref b2, .ref b3] 4), (LV, listOf #[.ref a0, .ref a1, .ref a2, .ref a3] nl), (a0, listOf v0.toArray n0), (a1, listOf v1.toArray n1), (a2, listOf v2.toArray n2), (a3, listOf v3.toArray n3), (b0, listOf w0.toArray k0), (b1, listOf w1.toArray k1), (b2, listOf w2.toArray k2), (b3, listOf w3.toArray k3), (L + 1 + 1 + 1 + 1, c4), (159, tabObj #[]), (107, tabObj ps7)] : List (Addr × Obj)) →
    wpAny (model PySem.Challenge.rw_ty0032_01.row.prog w) ((arA dp un fs gd).deeper (lawEnv L fa cd)) (execs (lawR.body.drop 15) (lawEnv L fa cd)) Q (fun _ _ => False) { s with heap := h', toks := tk' }) :
  wpAny (model PySem.Challenge.rw_ty0032_01.row.prog w) ((arA dp un fs gd).deeper (lawEnv L fa cd)) (execs (lawR.body.drop 14) (lawEnv L fa cd)) Q (fun _ _ => False) s := by
    unfold lawEnv at next ⊢
    dsimp only [lawR, recOf, List.drop] at next ⊢
    replace F := fr_knows hm F
    clear hm
    (repeat' (first | (k_unfold; (try dsimp only)) | row_room_at HE | (k_end; wrow_close) | ((with_reducible show wpAny _ _ (execs (Stmt.For _ _ _ _ _ :: [Stmt.Return _ _]) _) _ _ _); k_here; refine halt ?_) | ((with_reducible show wpAny _ _ (pyIter (Value.ref _)) _ _ _); (k_here; (with_reducible show wpAny _ _ (pyIter _) (fun _ _ => ForAt _ _ _ _ _ _ _ _ _ _ _) _ _); refine halt ?_)) | ((with_reducible show wpAny _ _ (exec (Stmt.For _ _ _ _ _) _) _ _ _); k_here; refine halt ?_) | ((with_reducible show wpAny _ _ (subscriptTail _ _ (Value.ref _) (Value.int _ _)) _ _ _); k_here; refine halt ?_) | ((with_reducible show wpAny _ _ (compareOp CmpOp.NotEq (Value.ref _) (Value.ref _)) _ _ _); (k_here; refine halt ?_)) | ((with_reducible show PyProof.Rows.LCt.CompSrcT _ _ _ _ _ _ _ _ _ _ _ _ _ _ _); (k_here; refine halt ?_)) | ((with_reducible show wpAny _ _ (eval (Expr.ListComp _ _ _ _) _) _ _ _); k_here; refine halt ?_) | ((with_reducible show wpAny _ _ (call (Value.ref _) _) _ _ _); k_here; refine halt ?_) | row_room_at HB | (dsimp only; (first | ((with_reducible show wpAny _ _ (execs (Stmt.For _ _ _ _ _ :: [Stmt.Return _ _]) _) _ _ _); k_here; refine halt ?_) | ((with_reducible show wpAny _ _ (pyIter (Value.ref _)) _ _ _); (k_here; (with_reducible show wpAny _ _ (pyIter _) (fun _ _ => ForAt _ _ _ _ _ _ _ _ _ _ _) _ _); refine halt ?_)) | ((with_reducible show wpAny _ _ (exec (Stmt.For _ _ _ _ _) _) _ _ _); k_here; refine halt ?_) | ((with_reducible show wpAny _ _ (subscriptTail _ _ (Value.ref _) (Value.int _ _)) _ _ _); k_here; refine halt ?_) | ((with_reducible show wpAny _ _ (compareOp CmpOp.NotEq (Value.ref _) (Value.ref _)) _ _ _); (k_here; refine halt ?_)) | ((with_reducible show PyProof.Rows.LCt.CompSrcT _ _ _ _ _ _ _ _ _ _ _ _ _ _ _); (k_here; refine halt ?_)) | ((with_reducible show wpAny _ _ (eval (Expr.ListComp _ _ _ _) _) _ _ _); k_here; refine halt ?_) | ((with_reducible show wpAny _ _ (call (Value.ref _) _) _ _ _); k_here; refine halt ?_) | walk1 | row_room_at HE)) | (leave1; walk_say "STEP leave1"; try dsimp only)))
    refine go ?_
    refine For_start ?_
    (repeat' (first | (k_unfold; (try dsimp only)) | row_room_at HE | (k_end; wrow_close) | ((with_reducible show wpAny _ _ (execs (Stmt.For _ _ _ _ _ :: [Stmt.Return _ _]) _) _ _ _); k_here; refine halt ?_) | ((with_reducible show wpAny _ _ (pyIter (Value.ref _)) _ _ _); (k_here; (with_reducible show wpAny _ _ (pyIter _) (fun _ _ => ForAt _ _ _ _ _ _ _ _ _ _ _) _ _); refine halt ?_)) | ((with_reducible show wpAny _ _ (exec (Stmt.For _ _ _ _ _) _) _ _ _); k_here; refine halt ?_) | ((with_reducible show wpAny _ _ (subscriptTail _ _ (Value.ref _) (Value.int _ _)) _ _ _); k_here; refine halt ?_) | ((with_reducible show wpAny _ _ (compareOp CmpOp.NotEq (Value.ref _) (Value.ref _)) _ _ _); (k_here; refine halt ?_)) | ((with_reducible show PyProof.Rows.LCt.CompSrcT _ _ _ _ _ _ _ _ _ _ _ _ _ _ _); (k_here; refine halt ?_)) | ((with_reducible show wpAny _ _ (eval (Expr.ListComp _ _ _ _) _) _ _ _); k_here; refine halt ?_) | ((with_reducible show wpAny _ _ (call (Value.ref _) _) _ _ _); k_here; refine halt ?_) | row_room_at HB | (dsimp only; (first | ((with_reducible show wpAny _ _ (execs (Stmt.For _ _ _ _ _ :: [Stmt.Return _ _]) _) _ _ _); k_here; refine halt ?_) | ((with_reducible show wpAny _ _ (pyIter (Value.ref _)) _ _ _); (k_here; (with_reducible show wpAny _ _ (pyIter _) (fun _ _ => ForAt _ _ _ _ _ _ _ _ _ _ _) _ _); refine halt ?_)) | ((with_reducible show wpAny _ _ (exec (Stmt.For _ _ _ _ _) _) _ _ _); k_here; refine halt ?_) | ((with_reducible show wpAny _ _ (subscriptTail _ _ (Value.ref _) (Value.int _ _)) _ _ _); k_here; refine halt ?_) | ((with_reducible show wpAny _ _ (compareOp CmpOp.NotEq (Value.ref _) (Value.ref _)) _ _ _); (k_here; refine halt ?_)) | ((with_reducible show PyProof.Rows.LCt.CompSrcT _ _ _ _ _ _ _ _ _ _ _ _ _ _ _); (k_here; refine halt ?_)) | ((with_reducible show wpAny _ _ (eval (Expr.ListComp _ _ _ _) _) _ _ _); k_here; refine halt ?_) | ((with_reducible show wpAny _ _ (call (Value.ref _) _) _ _ _); k_here; refine halt ?_) | walk1 | row_room_at HE)) | (leave1; walk_say "STEP leave1"; try dsimp only)))
    refine go ?_
    (with_reducible rename Fr _ _ _ _ => F1)
    (with_reducible rename News _ _ _ _ => N1)
    rename_i T1 _ _
    refine for_tuple rfl (fun j m news => Knows m [("levels", .ref LV), ("kept", .ref DK)] ∧ news = (T1, _) :: ([(TX, listOf vT.toArray nT), (DK, listOf #[.ref b0, .ref b1, .ref b2, .ref b3] 4), (LV, listOf #[.ref a0, .ref a1, .ref a2, .ref a3] nl), (a0, listOf v0.toArray n0), (a1, listOf v1.toArray n1), (a2, listOf v2.toArray n2), (a3, listOf v3.toArray n3), (b0, listOf w0.toArray k0), (b1, listOf w1.toArray k1), (b2, listOf w2.toArray k2), (b3, listOf w3.toArray k3), (L + 1 + 1 + 1 + 1, c4), (159, tabObj #[]), (107, tabObj ps7)] : List (Addr × Obj))) F1 N1 (.head _) ⟨⟨rfl, rfl, trivial⟩, rfl⟩ ?_ ?_ ?_ PassesOwn.never
    · rintro j m news ⟨_, rfl⟩
      exact .head _
    · clear F1 N1 next
      rintro I j v m news oI h tk hI hv9 ⟨e1, rfl⟩ off F N
      replace F := fr_knows e1 F
      clear e1
      (refine hideP ?_; intro PP hPP); (obtain ⟨hj3, tj, rfl⟩ := ints3_at hv9) <;> (refine hPP ?_; clear hPP; clear PP)
      have hget : ([(0 : Int), 1, 2].getD j 0) = (j : Int) := by
        obtain rfl | rfl | rfl : j = 0 ∨ j = 1 ∨ j = 2 := by omega
        all_goals rfl
      rw [hget]
      clear hv9 hget
      obtain ⟨ax, vv, nn, hga, hvv, hax⟩ : ∃ ax vv nn, (#[.ref a0, .ref a1, .ref a2, .ref a3] : Array Value)[j]? = some (.ref ax) ∧ IntsAre vv ((levN j).map fun n : Nat => (n : Int)) ∧ (ax, listOf vv.toArray nn) ∈ ([(TX, listOf vT.toArray nT), (DK, listOf #[.ref b0, .ref b1, .ref b2, .ref b3] 4), (LV, listOf #[.ref a0, .ref a1, .ref a2, .ref a3] nl), (a0, listOf v0.toArray n0), (a1, listOf v1.toArray n1), (a2, listOf v2.toArray n2), (a3, listOf v3.toArray n3), (b0, listOf w0.toArray k0), (b1, listOf w1.toArray k1), (b2, listOf w2.toArray k2), (b3, listOf w3.toArray k3), (L + 1 + 1 + 1 + 1, c4), (159, tabObj #[]), (107, tabObj ps7)] : List (Addr × Obj)) := by
        obtain rfl | rfl | rfl : j = 0 ∨ j = 1 ∨ j = 2 := by omega
        · exact ⟨a0, v0, n0, rfl, hv.1, by k_mem⟩
        · exact ⟨a1, v1, n1, rfl, hv.2.1, by k_mem⟩
        · exact ⟨a2, v2, n2, rfl, hv.2.2.1, by k_mem⟩
      obtain ⟨bx, wv, mm, hgb, hwv, hbx⟩ : ∃ bx wv mm, (#[.ref b0, .ref b1, .ref b2, .ref b3] : Array Value)[j]? = some (.ref bx) ∧ IntsAre wv ((keptN row j).map fun n : Nat => (n : Int)) ∧ (bx, listOf wv.toArray mm) ∈ ([(TX, listOf vT.toArray nT), (DK, listOf #[.ref b0, .ref b1, .ref b2, .ref b3] 4), (LV, listOf #[.ref a0, .ref a1, .ref a2, .ref a3] nl), (a0, listOf v0.toArray n0), (a1, listOf v1.toArray n1), (a2, listOf v2.toArray n2), (a3, listOf v3.toArray n3), (b0, listOf w0.toArray k0), (b1, listOf w1.toArray k1), (b2, listOf w2.toArray k2), (b3, listOf w3.toArray k3), (L + 1 + 1 + 1 + 1, c4), (159, tabObj #[]), (107, tabObj ps7)] : List (Addr × Obj)) := by
        obtain rfl | rfl | rfl : j = 0 ∨ j = 1 ∨ j = 2 := by omega
        · exact ⟨b0, w0, k0, rfl, hw.1, by k_mem⟩
        · exact ⟨b1, w1, k1, rfl, hw.2.1, by k_mem⟩
        · exact ⟨b2, w2, k2, rfl, hw.2.2.1, by k_mem⟩
      have hlv : (levN j).length ≤ 32 := Nat.le_trans (List.length_filter_le _ _) (Nat.le_of_eq List.length_range)
      have hvvl : vv.length = (levN j).length := by rw [hvv.length, List.length_map]
      (repeat' (first | (k_unfold; (try dsimp only)) | row_room_at HE | (k_end; wrow_close) | ((with_reducible show wpAny _ _ (execs (Stmt.For _ _ _ _ _ :: [Stmt.Return _ _]) _) _ _ _); k_here; refine halt ?_) | ((with_reducible show wpAny _ _ (pyIter (Value.ref _)) _ _ _); (k_here; (with_reducible show wpAny _ _ (pyIter _) (fun _ _ => ForAt _ _ _ _ _ _ _ _ _ _ _) _ _); refine halt ?_)) | ((with_reducible show wpAny _ _ (exec (Stmt.For _ _ _ _ _) _) _ _ _); k_here; refine halt ?_) | ((with_reducible show wpAny _ _ (subscriptTail _ _ (Value.ref _) (Value.int _ _)) _ _ _); k_here; refine halt ?_) | ((with_reducible show wpAny _ _ (compareOp CmpOp.NotEq (Value.ref _) (Value.ref _)) _ _ _); (k_here; refine halt ?_)) | ((with_reducible show PyProof.Rows.LCt.CompSrcT _ _ _ _ _ _ _ _ _ _ _ _ _ _ _); (k_here; refine halt ?_)) | ((with_reducible show wpAny _ _ (eval (Expr.ListComp _ _ _ _) _) _ _ _); k_here; refine halt ?_) | ((with_reducible show wpAny _ _ (call (Value.ref _) _) _ _ _); k_here; refine halt ?_) | row_room_at HB | (dsimp only; (first | ((with_reducible show wpAny _ _ (execs (Stmt.For _ _ _ _ _ :: [Stmt.Return _ _]) _) _ _ _); k_here; refine halt ?_) | ((with_reducible show wpAny _ _ (pyIter (Value.ref _)) _ _ _); (k_here; (with_reducible show wpAny _ _ (pyIter _) (fun _ _ => ForAt _ _ _ _ _ _ _ _ _ _ _) _ _); refine halt ?_)) | ((with_reducible show wpAny _ _ (exec (Stmt.For _ _ _ _ _) _) _ _ _); k_here; refine halt ?_) | ((with_reducible show wpAny _ _ (subscriptTail _ _ (Value.ref _) (Value.int _ _)) _ _ _); k_here; refine halt ?_) | ((with_reducible show wpAny _ _ (compareOp CmpOp.NotEq (Value.ref _) (Value.ref _)) _ _ _); (k_here; refine halt ?_)) | ((with_reducible show PyProof.Rows.LCt.CompSrcT _ _ _ _ _ _ _ _ _ _ _ _ _ _ _); (k_here; refine halt ?_)) | ((with_reducible show wpAny _ _ (eval (Expr.ListComp _ _ _ _) _) _ _ _); k_here; refine halt ?_) | ((with_reducible show wpAny _ _ (call (Value.ref _) _) _ _ _); k_here; refine halt ?_) | walk1 | row_room_at HE)) | (leave1; walk_say "STEP leave1"; try dsimp only)))
      refine go ?_
      refine LCt.ListComp_T (F₀ := by k_asm) (by with_unfolding_all rfl) (by decide) (by rfl) (by decide) (by rfl) ?_
      (repeat' (first | (k_unfold; (try dsimp only)) | row_room_at HE | (k_end; wrow_close) | ((with_reducible show wpAny _ _ (execs (Stmt.For _ _ _ _ _ :: [Stmt.Return _ _]) _) _ _ _); k_here; refine halt ?_) | ((with_reducible show wpAny _ _ (pyIter (Value.ref _)) _ _ _); (k_here; (with_reducible show wpAny _ _ (pyIter _) (fun _ _ => ForAt _ _ _ _ _ _ _ _ _ _ _) _ _); refine halt ?_)) | ((with_reducible show wpAny _ _ (exec (Stmt.For _ _ _ _ _) _) _ _ _); k_here; refine halt ?_) | ((with_reducible show wpAny _ _ (subscriptTail _ _ (Value.ref _) (Value.int _ _)) _ _ _); k_here; refine halt ?_) | ((with_reducible show wpAny _ _ (compareOp CmpOp.NotEq (Value.ref _) (Value.ref _)) _ _ _); (k_here; refine halt ?_)) | ((with_reducible show PyProof.Rows.LCt.CompSrcT _ _ _ _ _ _ _ _ _ _ _ _ _ _ _); (k_here; refine halt ?_)) | ((with_reducible show wpAny _ _ (eval (Expr.ListComp _ _ _ _) _) _ _ _); k_here; refine halt ?_) | ((with_reducible show wpAny _ _ (call (Value.ref _) _) _ _ _); k_here; refine halt ?_) | row_room_at HB | (dsimp only; (first | ((with_reducible show wpAny _ _ (execs (Stmt.For _ _ _ _ _ :: [Stmt.Return _ _]) _) _ _ _); k_here; refine halt ?_) | ((with_reducible show wpAny _ _ (pyIter (Value.ref _)) _ _ _); (k_here; (with_reducible show wpAny _ _ (pyIter _) (fun _ _ => ForAt _ _ _ _ _ _ _ _ _ _ _) _ _); refine halt ?_)) | ((with_reducible show wpAny _ _ (exec (Stmt.For _ _ _ _ _) _) _ _ _); k_here; refine halt ?_) | ((with_reducible show wpAny _ _ (subscriptTail _ _ (Value.ref _) (Value.int _ _)) _ _ _); k_here; refine halt ?_) | ((with_reducible show wpAny _ _ (compareOp CmpOp.NotEq (Value.ref _) (Value.ref _)) _ _ _); (k_here; refine halt ?_)) | ((with_reducible show PyProof.Rows.LCt.CompSrcT _ _ _ _ _ _ _ _ _ _ _ _ _ _ _); (k_here; refine halt ?_)) | ((with_reducible show wpAny _ _ (eval (Expr.ListComp _ _ _ _) _) _ _ _); k_here; refine halt ?_) | ((with_reducible show wpAny _ _ (call (Value.ref _) _) _ _ _); k_here; refine halt ?_) | walk1 | row_room_at HE)) | (leave1; walk_say "STEP leave1"; try dsimp only)))
      refine go ?_
      (with_reducible rename Fr _ _ _ _ => F2)
      (with_reducible rename News _ _ _ _ => N2)
      refine' tail_K (its := #[.ref a0, .ref a1, .ref a2, .ref a3]) (n := nl) (x := .ref ax) ?g1N ?g1m ?g1a ?g1b ?g1c ?_
      (case g1N => exact N2)
      (case g1m => k_mem)
      (case g1a => omega)
      (case g1b => omega)
      (case g1c => rw [Int.toNat_natCast]; exact hga)
      (repeat' (first | (k_unfold; (try dsimp only)) | row_room_at HE | (k_end; wrow_close) | ((with_reducible show wpAny _ _ (execs (Stmt.For _ _ _ _ _ :: [Stmt.Return _ _]) _) _ _ _); k_here; refine halt ?_) | ((with_reducible show wpAny _ _ (pyIter (Value.ref _)) _ _ _); (k_here; (with_reducible show wpAny _ _ (pyIter _) (fun _ _ => ForAt _ _ _ _ _ _ _ _ _ _ _) _ _); refine halt ?_)) | ((with_reducible show wpAny _ _ (exec (Stmt.For _ _ _ _ _) _) _ _ _); k_here; refine halt ?_) | ((with_reducible show wpAny _ _ (subscriptTail _ _ (Value.ref _) (Value.int _ _)) _ _ _); k_here; refine halt ?_) | ((with_reducible show wpAny _ _ (compareOp CmpOp.NotEq (Value.ref _) (Value.ref _)) _ _ _); (k_here; refine halt ?_)) | ((with_reducible show PyProof.Rows.LCt.CompSrcT _ _ _ _ _ _ _ _ _ _ _ _ _ _ _); (k_here; refine halt ?_)) | ((with_reducible show wpAny _ _ (eval (Expr.ListComp _ _ _ _) _) _ _ _); k_here; refine halt ?_) | ((with_reducible show wpAny _ _ (call (Value.ref _) _) _ _ _); k_here; refine halt ?_) | row_room_at HB | (dsimp only; (first | ((with_reducible show wpAny _ _ (execs (Stmt.For _ _ _ _ _ :: [Stmt.Return _ _]) _) _ _ _); k_here; refine halt ?_) | ((with_reducible show wpAny _ _ (pyIter (Value.ref _)) _ _ _); (k_here; (with_reducible show wpAny _ _ (pyIter _) (fun _ _ => ForAt _ _ _ _ _ _ _ _ _ _ _) _ _); refine halt ?_)) | ((with_reducible show wpAny _ _ (exec (Stmt.For _ _ _ _ _) _) _ _ _); k_here; refine halt ?_) | ((with_reducible show wpAny _ _ (subscriptTail _ _ (Value.ref _) (Value.int _ _)) _ _ _); k_here; refine halt ?_) | ((with_reducible show wpAny _ _ (compareOp CmpOp.NotEq (Value.ref _) (Value.ref _)) _ _ _); (k_here; refine halt ?_)) | ((with_reducible show PyProof.Rows.LCt.CompSrcT _ _ _ _ _ _ _ _ _ _ _ _ _ _ _); (k_here; refine halt ?_)) | ((with_reducible show wpAny _ _ (eval (Expr.ListComp _ _ _ _) _) _ _ _); k_here; refine halt ?_) | ((with_reducible show wpAny _ _ (call (Value.ref _) _) _ _ _); k_here; refine halt ?_) | walk1 | row_room_at HE)) | (leave1; walk_say "STEP leave1"; try dsimp only)))
      refine go ?_
      (with_reducible rename Fr _ _ _ _ => F3)
      (with_reducible rename News _ _ _ _ => N3)
      refine LCt.CompSrcT.ledger rfl F3 N3 (.tail _ (.tail _ hax)) (size_small (by simp only [List.size_toArray]; omega)) ?_
      intro gg2
      have hsz2 : vv.toArray.size = (levN j).length := by rw [List.size_toArray, hvvl]
      refine compRestT_J (fun i2 ys2 news2 => IntsAre ys2 ((((levN j).take i2).filter (liesN ms)).map fun n : Nat => (n : Int)) ∧ news2 = (I, oI) :: (T1, _) :: ([(TX, listOf vT.toArray nT), (DK, listOf #[.ref b0, .ref b1, .ref b2, .ref b3] 4), (LV, listOf #[.ref a0, .ref a1, .ref a2, .ref a3] nl), (a0, listOf v0.toArray n0), (a1, listOf v1.toArray n1), (a2, listOf v2.toArray n2), (a3, listOf v3.toArray n3), (b0, listOf w0.toArray k0), (b1, listOf w1.toArray k1), (b2, listOf w2.toArray k2), (b3, listOf w3.toArray k3), (L + 1 + 1 + 1 + 1, c4), (159, tabObj #[]), (107, tabObj ps7)] : List (Addr × Obj))) ?_ ?_ _ 0 [] _ (Nat.zero_add _) ⟨.nil, rfl⟩
      · clear F3 N3
        rintro i2 ys2 news2 v2' I2 oI2 C2 oC2 D2 m₃ h6 tk6 E6 hin2 ⟨hys2, rfl⟩ hv2' hC2' hx2 F N off2 ne2
        rw [hsz2] at hin2
        obtain ⟨mk, hmm⟩ : ∃ mk, (levN j)[i2]? = some mk := ⟨_, List.getElem?_eq_getElem hin2⟩
        obtain ⟨tm, hv3'⟩ := hvv.get i2 (mk : Int) (by rw [List.getElem?_map, hmm]; rfl)
        rw [List.getElem?_toArray, hv3'] at hv2'
        cases hv2'
        obtain ⟨hmk32, hmkb⟩ := levN_mem (List.mem_of_getElem? hmm)
        have off20 := off2
        clear off2
        (repeat' (first | (k_unfold; (try dsimp only)) | row_room_at HE | (k_end; wrow_close) | ((with_reducible show wpAny _ _ (execs (Stmt.For _ _ _ _ _ :: [Stmt.Return _ _]) _) _ _ _); k_here; refine halt ?_) | ((with_reducible show wpAny _ _ (pyIter (Value.ref _)) _ _ _); (k_here; (with_reducible show wpAny _ _ (pyIter _) (fun _ _ => ForAt _ _ _ _ _ _ _ _ _ _ _) _ _); refine halt ?_)) | ((with_reducible show wpAny _ _ (exec (Stmt.For _ _ _ _ _) _) _ _ _); k_here; refine halt ?_) | ((with_reducible show wpAny _ _ (subscriptTail _ _ (Value.ref _) (Value.int _ _)) _ _ _); k_here; refine halt ?_) | ((with_reducible show wpAny _ _ (compareOp CmpOp.NotEq (Value.ref _) (Value.ref _)) _ _ _); (k_here; refine halt ?_)) | ((with_reducible show PyProof.Rows.LCt.CompSrcT _ _ _ _ _ _ _ _ _ _ _ _ _ _ _); (k_here; refine halt ?_)) | ((with_reducible show wpAny _ _ (eval (Expr.ListComp _ _ _ _) _) _ _ _); k_here; refine halt ?_) | ((with_reducible show wpAny _ _ (call (Value.ref _) _) _ _ _); k_here; refine halt ?_) | row_room_at HB | (dsimp only; (first | ((with_reducible show wpAny _ _ (execs (Stmt.For _ _ _ _ _ :: [Stmt.Return _ _]) _) _ _ _); k_here; refine halt ?_) | ((with_reducible show wpAny _ _ (pyIter (Value.ref _)) _ _ _); (k_here; (with_reducible show wpAny _ _ (pyIter _) (fun _ _ => ForAt _ _ _ _ _ _ _ _ _ _ _) _ _); refine halt ?_)) | ((with_reducible show wpAny _ _ (exec (Stmt.For _ _ _ _ _) _) _ _ _); k_here; refine halt ?_) | ((with_reducible show wpAny _ _ (subscriptTail _ _ (Value.ref _) (Value.int _ _)) _ _ _); k_here; refine halt ?_) | ((with_reducible show wpAny _ _ (compareOp CmpOp.NotEq (Value.ref _) (Value.ref _)) _ _ _); (k_here; refine halt ?_)) | ((with_reducible show PyProof.Rows.LCt.CompSrcT _ _ _ _ _ _ _ _ _ _ _ _ _ _ _); (k_here; refine halt ?_)) | ((with_reducible show wpAny _ _ (eval (Expr.ListComp _ _ _ _) _) _ _ _); k_here; refine halt ?_) | ((with_reducible show wpAny _ _ (call (Value.ref _) _) _ _ _); k_here; refine halt ?_) | walk1 | row_room_at HE)) | (leave1; walk_say "STEP leave1"; try dsimp only)))
        refine go ?_
        (with_reducible rename Fr _ _ _ _ => F5)
        (with_reducible rename News _ _ _ _ => N5)
        refine' lies_call ?pa ?pb X' T' ?pst hmk32 ?pbits hvT hms (hn_of N5 ?pm) ?_
        (case pa => (first | exact lim2 hdp rfl | exact lim1 hdp rfl | exact lim2 hun rfl | exact lim1 hun rfl | exact lim0 hdp | exact lim0 hun | exact lim3 hdp rfl | exact lim3 hun rfl | ((try dsimp only [arA, Around.deeper]); omega)))
        (case pb => (first | exact lim2 hdp rfl | exact lim1 hdp rfl | exact lim2 hun rfl | exact lim1 hun rfl | exact lim0 hdp | exact lim0 hun | exact lim3 hdp rfl | exact lim3 hun rfl | ((try dsimp only [arA, Around.deeper]); omega)))
        (case pst => exact F5.keep)
        (case pbits => omega)
        (case pm => exact fun q hq => by rw [List.mem_singleton.mp hq]; k_mem)
        intro h7 tk7 kp7
        have F7 := fr_kept0 F5 kp7
        have N7 := news_kept0 N5 kp7
        clear kp7 F5 N5
        have hsn := filter_take_snoc (levN j) (liesN ms) hmm
        rw [show (ms.any fun m => mk &&& m == mk) = liesN ms mk from rfl]
        by_cases hc : liesN ms mk = true
        · rw [hc]
          (repeat' (first | (k_unfold; (try dsimp only)) | row_room_at HE | (k_end; wrow_close) | ((with_reducible show wpAny _ _ (execs (Stmt.For _ _ _ _ _ :: [Stmt.Return _ _]) _) _ _ _); k_here; refine halt ?_) | ((with_reducible show wpAny _ _ (pyIter (Value.ref _)) _ _ _); (k_here; (with_reducible show wpAny _ _ (pyIter _) (fun _ _ => ForAt _ _ _ _ _ _ _ _ _ _ _) _ _); refine halt ?_)) | ((with_reducible show wpAny _ _ (exec (Stmt.For _ _ _ _ _) _) _ _ _); k_here; refine halt ?_) | ((with_reducible show wpAny _ _ (subscriptTail _ _ (Value.ref _) (Value.int _ _)) _ _ _); k_here; refine halt ?_) | ((with_reducible show wpAny _ _ (compareOp CmpOp.NotEq (Value.ref _) (Value.ref _)) _ _ _); (k_here; refine halt ?_)) | ((with_reducible show PyProof.Rows.LCt.CompSrcT _ _ _ _ _ _ _ _ _ _ _ _ _ _ _); (k_here; refine halt ?_)) | ((with_reducible show wpAny _ _ (eval (Expr.ListComp _ _ _ _) _) _ _ _); k_here; refine halt ?_) | ((with_reducible show wpAny _ _ (call (Value.ref _) _) _ _ _); k_here; refine halt ?_) | row_room_at HB | (dsimp only; (first | ((with_reducible show wpAny _ _ (execs (Stmt.For _ _ _ _ _ :: [Stmt.Return _ _]) _) _ _ _); k_here; refine halt ?_) | ((with_reducible show wpAny _ _ (pyIter (Value.ref _)) _ _ _); (k_here; (with_reducible show wpAny _ _ (pyIter _) (fun _ _ => ForAt _ _ _ _ _ _ _ _ _ _ _) _ _); refine halt ?_)) | ((with_reducible show wpAny _ _ (exec (Stmt.For _ _ _ _ _) _) _ _ _); k_here; refine halt ?_) | ((with_reducible show wpAny _ _ (subscriptTail _ _ (Value.ref _) (Value.int _ _)) _ _ _); k_here; refine halt ?_) | ((with_reducible show wpAny _ _ (compareOp CmpOp.NotEq (Value.ref _) (Value.ref _)) _ _ _); (k_here; refine halt ?_)) | ((with_reducible show PyProof.Rows.LCt.CompSrcT _ _ _ _ _ _ _ _ _ _ _ _ _ _ _); (k_here; refine halt ?_)) | ((with_reducible show wpAny _ _ (eval (Expr.ListComp _ _ _ _) _) _ _ _); k_here; refine halt ?_) | ((with_reducible show wpAny _ _ (call (Value.ref _) _) _ _ _); k_here; refine halt ?_) | walk1 | row_room_at HE)) | (leave1; walk_say "STEP leave1"; try dsimp only)))
          (with_reducible rename Fr _ _ _ _ => F8)
          (with_reducible rename News _ _ _ _ => N8)
          refine LCg.CompEnd.intro F8 N8 _ (fun _ hp => hp) off20 (.inr ⟨listOf vv.toArray nn, .tail _ (.tail _ hax), rfl, nn, rfl⟩) ⟨?_, rfl⟩
          rw [hsn, if_pos hc, List.map_append]
          exact IntsAre.append hys2 (.cons _ _ .nil)
        · rw [Bool.not_eq_true] at hc
          rw [hc]
          (repeat' (first | (k_unfold; (try dsimp only)) | row_room_at HE | (k_end; wrow_close) | ((with_reducible show wpAny _ _ (execs (Stmt.For _ _ _ _ _ :: [Stmt.Return _ _]) _) _ _ _); k_here; refine halt ?_) | ((with_reducible show wpAny _ _ (pyIter (Value.ref _)) _ _ _); (k_here; (with_reducible show wpAny _ _ (pyIter _) (fun _ _ => ForAt _ _ _ _ _ _ _ _ _ _ _) _ _); refine halt ?_)) | ((with_reducible show wpAny _ _ (exec (Stmt.For _ _ _ _ _) _) _ _ _); k_here; refine halt ?_) | ((with_reducible show wpAny _ _ (subscriptTail _ _ (Value.ref _) (Value.int _ _)) _ _ _); k_here; refine halt ?_) | ((with_reducible show wpAny _ _ (compareOp CmpOp.NotEq (Value.ref _) (Value.ref _)) _ _ _); (k_here; refine halt ?_)) | ((with_reducible show PyProof.Rows.LCt.CompSrcT _ _ _ _ _ _ _ _ _ _ _ _ _ _ _); (k_here; refine halt ?_)) | ((with_reducible show wpAny _ _ (eval (Expr.ListComp _ _ _ _) _) _ _ _); k_here; refine halt ?_) | ((with_reducible show wpAny _ _ (call (Value.ref _) _) _ _ _); k_here; refine halt ?_) | row_room_at HB | (dsimp only; (first | ((with_reducible show wpAny _ _ (execs (Stmt.For _ _ _ _ _ :: [Stmt.Return _ _]) _) _ _ _); k_here; refine halt ?_) | ((with_reducible show wpAny _ _ (pyIter (Value.ref _)) _ _ _); (k_here; (with_reducible show wpAny _ _ (pyIter _) (fun _ _ => ForAt _ _ _ _ _ _ _ _ _ _ _) _ _); refine halt ?_)) | ((with_reducible show wpAny _ _ (exec (Stmt.For _ _ _ _ _) _) _ _ _); k_here; refine halt ?_) | ((with_reducible show wpAny _ _ (subscriptTail _ _ (Value.ref _) (Value.int _ _)) _ _ _); k_here; refine halt ?_) | ((with_reducible show wpAny _ _ (compareOp CmpOp.NotEq (Value.ref _) (Value.ref _)) _ _ _); (k_here; refine halt ?_)) | ((with_reducible show PyProof.Rows.LCt.CompSrcT _ _ _ _ _ _ _ _ _ _ _ _ _ _ _); (k_here; refine halt ?_)) | ((with_reducible show wpAny _ _ (eval (Expr.ListComp _ _ _ _) _) _ _ _); k_here; refine halt ?_) | ((with_reducible show wpAny _ _ (call (Value.ref _) _) _ _ _); k_here; refine halt ?_) | walk1 | row_room_at HE)) | (leave1; walk_say "STEP leave1"; try dsimp only)))
          (with_reducible rename Fr _ _ _ _ => F8)
          (with_reducible rename News _ _ _ _ => N8)
          refine LCg.CompEnd.intro F8 N8 _ (fun _ hp => hp) off20 (.inr ⟨listOf vv.toArray nn, .tail _ (.tail _ hax), rfl, nn, rfl⟩) ⟨?_, rfl⟩
          rw [hsn, if_neg (by rw [hc]; exact Bool.false_ne_true), List.append_nil]
          exact hys2
      · rintro ys2 news2 ⟨hys2, rfl⟩
        rw [hsz2, List.take_length, hkept] at hys2
        clear F3 N3
        unfold LCg.FinE
        intro D2 h7 tk7 F7 N7 o7
        (try dsimp only)
        (repeat' (first | (k_unfold; (try dsimp only)) | row_room_at HE | (k_end; wrow_close) | ((with_reducible show wpAny _ _ (execs (Stmt.For _ _ _ _ _ :: [Stmt.Return _ _]) _) _ _ _); k_here; refine halt ?_) | ((with_reducible show wpAny _ _ (pyIter (Value.ref _)) _ _ _); (k_here; (with_reducible show wpAny _ _ (pyIter _) (fun _ _ => ForAt _ _ _ _ _ _ _ _ _ _ _) _ _); refine halt ?_)) | ((with_reducible show wpAny _ _ (exec (Stmt.For _ _ _ _ _) _) _ _ _); k_here; refine halt ?_) | ((with_reducible show wpAny _ _ (subscriptTail _ _ (Value.ref _) (Value.int _ _)) _ _ _); k_here; refine halt ?_) | ((with_reducible show wpAny _ _ (compareOp CmpOp.NotEq (Value.ref _) (Value.ref _)) _ _ _); (k_here; refine halt ?_)) | ((with_reducible show PyProof.Rows.LCt.CompSrcT _ _ _ _ _ _ _ _ _ _ _ _ _ _ _); (k_here; refine halt ?_)) | ((with_reducible show wpAny _ _ (eval (Expr.ListComp _ _ _ _) _) _ _ _); k_here; refine halt ?_) | ((with_reducible show wpAny _ _ (call (Value.ref _) _) _ _ _); k_here; refine halt ?_) | row_room_at HB | (dsimp only; (first | ((with_reducible show wpAny _ _ (execs (Stmt.For _ _ _ _ _ :: [Stmt.Return _ _]) _) _ _ _); k_here; refine halt ?_) | ((with_reducible show wpAny _ _ (pyIter (Value.ref _)) _ _ _); (k_here; (with_reducible show wpAny _ _ (pyIter _) (fun _ _ => ForAt _ _ _ _ _ _ _ _ _ _ _) _ _); refine halt ?_)) | ((with_reducible show wpAny _ _ (exec (Stmt.For _ _ _ _ _) _) _ _ _); k_here; refine halt ?_) | ((with_reducible show wpAny _ _ (subscriptTail _ _ (Value.ref _) (Value.int _ _)) _ _ _); k_here; refine halt ?_) | ((with_reducible show wpAny _ _ (compareOp CmpOp.NotEq (Value.ref _) (Value.ref _)) _ _ _); (k_here; refine halt ?_)) | ((with_reducible show PyProof.Rows.LCt.CompSrcT _ _ _ _ _ _ _ _ _ _ _ _ _ _ _); (k_here; refine halt ?_)) | ((with_reducible show wpAny _ _ (eval (Expr.ListComp _ _ _ _) _) _ _ _); k_here; refine halt ?_) | ((with_reducible show wpAny _ _ (call (Value.ref _) _) _ _ _); k_here; refine halt ?_) | walk1 | row_room_at HE)) | (leave1; walk_say "STEP leave1"; try dsimp only)))
        refine go ?_
        (with_reducible rename Fr _ _ _ _ => F8)
        (with_reducible rename News _ _ _ _ => N8)
        refine' tail_K (its := #[.ref b0, .ref b1, .ref b2, .ref b3]) (n := 4) (x := .ref bx) ?g2N ?g2m ?g2a ?g2b ?g2c ?_
        (case g2N => exact N8)
        (case g2m => k_mem)
        (case g2a => omega)
        (case g2b => omega)
        (case g2c => rw [Int.toNat_natCast]; exact hgb)
        (repeat' (first | (k_unfold; (try dsimp only)) | row_room_at HE | (k_end; wrow_close) | ((with_reducible show wpAny _ _ (execs (Stmt.For _ _ _ _ _ :: [Stmt.Return _ _]) _) _ _ _); k_here; refine halt ?_) | ((with_reducible show wpAny _ _ (pyIter (Value.ref _)) _ _ _); (k_here; (with_reducible show wpAny _ _ (pyIter _) (fun _ _ => ForAt _ _ _ _ _ _ _ _ _ _ _) _ _); refine halt ?_)) | ((with_reducible show wpAny _ _ (exec (Stmt.For _ _ _ _ _) _) _ _ _); k_here; refine halt ?_) | ((with_reducible show wpAny _ _ (subscriptTail _ _ (Value.ref _) (Value.int _ _)) _ _ _); k_here; refine halt ?_) | ((with_reducible show wpAny _ _ (compareOp CmpOp.NotEq (Value.ref _) (Value.ref _)) _ _ _); (k_here; refine halt ?_)) | ((with_reducible show PyProof.Rows.LCt.CompSrcT _ _ _ _ _ _ _ _ _ _ _ _ _ _ _); (k_here; refine halt ?_)) | ((with_reducible show wpAny _ _ (eval (Expr.ListComp _ _ _ _) _) _ _ _); k_here; refine halt ?_) | ((with_reducible show wpAny _ _ (call (Value.ref _) _) _ _ _); k_here; refine halt ?_) | row_room_at HB | (dsimp only; (first | ((with_reducible show wpAny _ _ (execs (Stmt.For _ _ _ _ _ :: [Stmt.Return _ _]) _) _ _ _); k_here; refine halt ?_) | ((with_reducible show wpAny _ _ (pyIter (Value.ref _)) _ _ _); (k_here; (with_reducible show wpAny _ _ (pyIter _) (fun _ _ => ForAt _ _ _ _ _ _ _ _ _ _ _) _ _); refine halt ?_)) | ((with_reducible show wpAny _ _ (exec (Stmt.For _ _ _ _ _) _) _ _ _); k_here; refine halt ?_) | ((with_reducible show wpAny _ _ (subscriptTail _ _ (Value.ref _) (Value.int _ _)) _ _ _); k_here; refine halt ?_) | ((with_reducible show wpAny _ _ (compareOp CmpOp.NotEq (Value.ref _) (Value.ref _)) _ _ _); (k_here; refine halt ?_)) | ((with_reducible show PyProof.Rows.LCt.CompSrcT _ _ _ _ _ _ _ _ _ _ _ _ _ _ _); (k_here; refine halt ?_)) | ((with_reducible show wpAny _ _ (eval (Expr.ListComp _ _ _ _) _) _ _ _); k_here; refine halt ?_) | ((with_reducible show wpAny _ _ (call (Value.ref _) _) _ _ _); k_here; refine halt ?_) | walk1 | row_room_at HE)) | (leave1; walk_say "STEP leave1"; try dsimp only)))
        refine go ?_
        (with_reducible rename Fr _ _ _ _ => F9)
        (with_reducible rename News _ _ _ _ => N9)
        refine' ke_ne_ints ?ja ?jb hys2 hwv ?ju ?_
        (case ja => exact ⟨_, (N9 (D2, LCg.lst ys2) (.head _)).1, rfl, _, rfl⟩)
        (case jb => exact isL (N9 (bx, listOf wv.toArray mm) (.tail _ (.tail _ (.tail _ hbx)))).1)
        (case ju => (first | exact lim2 hdp rfl | exact lim1 hdp rfl | exact lim2 hun rfl | exact lim1 hun rfl | exact lim0 hdp | exact lim0 hun | exact lim3 hdp rfl | exact lim3 hun rfl | ((try dsimp only [arA, Around.deeper]); omega)))
        rw [decide_eq_true rfl]
        (repeat' (first | (k_unfold; (try dsimp only)) | row_room_at HE | (k_end; wrow_close) | ((with_reducible show wpAny _ _ (execs (Stmt.For _ _ _ _ _ :: [Stmt.Return _ _]) _) _ _ _); k_here; refine halt ?_) | ((with_reducible show wpAny _ _ (pyIter (Value.ref _)) _ _ _); (k_here; (with_reducible show wpAny _ _ (pyIter _) (fun _ _ => ForAt _ _ _ _ _ _ _ _ _ _ _) _ _); refine halt ?_)) | ((with_reducible show wpAny _ _ (exec (Stmt.For _ _ _ _ _) _) _ _ _); k_here; refine halt ?_) | ((with_reducible show wpAny _ _ (subscriptTail _ _ (Value.ref _) (Value.int _ _)) _ _ _); k_here; refine halt ?_) | ((with_reducible show wpAny _ _ (compareOp CmpOp.NotEq (Value.ref _) (Value.ref _)) _ _ _); (k_here; refine halt ?_)) | ((with_reducible show PyProof.Rows.LCt.CompSrcT _ _ _ _ _ _ _ _ _ _ _ _ _ _ _); (k_here; refine halt ?_)) | ((with_reducible show wpAny _ _ (eval (Expr.ListComp _ _ _ _) _) _ _ _); k_here; refine halt ?_) | ((with_reducible show wpAny _ _ (call (Value.ref _) _) _ _ _); k_here; refine halt ?_) | row_room_at HB | (dsimp only; (first | ((with_reducible show wpAny _ _ (execs (Stmt.For _ _ _ _ _ :: [Stmt.Return _ _]) _) _ _ _); k_here; refine halt ?_) | ((with_reducible show wpAny _ _ (pyIter (Value.ref _)) _ _ _); (k_here; (with_reducible show wpAny _ _ (pyIter _) (fun _ _ => ForAt _ _ _ _ _ _ _ _ _ _ _) _ _); refine halt ?_)) | ((with_reducible show wpAny _ _ (exec (Stmt.For _ _ _ _ _) _) _ _ _); k_here; refine halt ?_) | ((with_reducible show wpAny _ _ (subscriptTail _ _ (Value.ref _) (Value.int _ _)) _ _ _); k_here; refine halt ?_) | ((with_reducible show wpAny _ _ (compareOp CmpOp.NotEq (Value.ref _) (Value.ref _)) _ _ _); (k_here; refine halt ?_)) | ((with_reducible show PyProof.Rows.LCt.CompSrcT _ _ _ _ _ _ _ _ _ _ _ _ _ _ _); (k_here; refine halt ?_)) | ((with_reducible show wpAny _ _ (eval (Expr.ListComp _ _ _ _) _) _ _ _); k_here; refine halt ?_) | ((with_reducible show wpAny _ _ (call (Value.ref _) _) _ _ _); k_here; refine halt ?_) | walk1 | row_room_at HE)) | (leave1; walk_say "STEP leave1"; try dsimp only)))
        (with_reducible rename Fr _ _ _ _ => F10)
        (with_reducible rename News _ _ _ _ => N10)
        refine fEnd F10 (news_tail N10) (fun _ hp => hp) off ⟨⟨rfl, rfl, trivial⟩, rfl⟩
    · rintro m news h tk ⟨e1, rfl⟩ F N
      replace F := fr_knows e1 F
      clear e1 F1 N1
      (try dsimp only)
      (repeat' (first | (k_unfold; (try dsimp only)) | row_room_at HE | (k_end; wrow_close) | ((with_reducible show wpAny _ _ (execs (Stmt.For _ _ _ _ _ :: [Stmt.Return _ _]) _) _ _ _); k_here; refine halt ?_) | ((with_reducible show wpAny _ _ (pyIter (Value.ref _)) _ _ _); (k_here; (with_reducible show wpAny _ _ (pyIter _) (fun _ _ => ForAt _ _ _ _ _ _ _ _ _ _ _) _ _); refine halt ?_)) | ((with_reducible show wpAny _ _ (exec (Stmt.For _ _ _ _ _) _) _ _ _); k_here; refine halt ?_) | ((with_reducible show wpAny _ _ (subscriptTail _ _ (Value.ref _) (Value.int _ _)) _ _ _); k_here; refine halt ?_) | ((with_reducible show wpAny _ _ (compareOp CmpOp.NotEq (Value.ref _) (Value.ref _)) _ _ _); (k_here; refine halt ?_)) | ((with_reducible show PyProof.Rows.LCt.CompSrcT _ _ _ _ _ _ _ _ _ _ _ _ _ _ _); (k_here; refine halt ?_)) | ((with_reducible show wpAny _ _ (eval (Expr.ListComp _ _ _ _) _) _ _ _); k_here; refine halt ?_) | ((with_reducible show wpAny _ _ (call (Value.ref _) _) _ _ _); k_here; refine halt ?_) | row_room_at HB | (dsimp only; (first | ((with_reducible show wpAny _ _ (execs (Stmt.For _ _ _ _ _ :: [Stmt.Return _ _]) _) _ _ _); k_here; refine halt ?_) | ((with_reducible show wpAny _ _ (pyIter (Value.ref _)) _ _ _); (k_here; (with_reducible show wpAny _ _ (pyIter _) (fun _ _ => ForAt _ _ _ _ _ _ _ _ _ _ _) _ _); refine halt ?_)) | ((with_reducible show wpAny _ _ (exec (Stmt.For _ _ _ _ _) _) _ _ _); k_here; refine halt ?_) | ((with_reducible show wpAny _ _ (subscriptTail _ _ (Value.ref _) (Value.int _ _)) _ _ _); k_here; refine halt ?_) | ((with_reducible show wpAny _ _ (compareOp CmpOp.NotEq (Value.ref _) (Value.ref _)) _ _ _); (k_here; refine halt ?_)) | ((with_reducible show PyProof.Rows.LCt.CompSrcT _ _ _ _ _ _ _ _ _ _ _ _ _ _ _); (k_here; refine halt ?_)) | ((with_reducible show wpAny _ _ (eval (Expr.ListComp _ _ _ _) _) _ _ _); k_here; refine halt ?_) | ((with_reducible show wpAny _ _ (call (Value.ref _) _) _ _ _); k_here; refine halt ?_) | walk1 | row_room_at HE)) | (leave1; walk_say "STEP leave1"; try dsimp only)))
      refine go ?_
      (with_reducible rename Fr _ _ _ _ => F9)
      (with_reducible rename News _ _ _ _ => N9)
      (repeat row_room_at HE)
      exact next _ _ _ F9 ⟨rfl, rfl, trivial⟩ (news_tail N9)
end

/-! T_s11 -/
theorem flushT_s11 : True ∧ True := by first | (row_walk; done) | (walk1; done) | exact ⟨trivial, trivial⟩
noncomputable def firstN (k c : Nat) : List Int := placesF ((levN (k - 1)).map fun n : Nat => (n : Int)) ((levN k).take c)
noncomputable def leastN (row : List Nat) (k : Nat) : List Int := placesF ((levN (k - 1)).map fun n : Nat => (n : Int)) (keptN row k)
theorem levN_sorted (k : Nat) : (levN k).Pairwise (· < ·) := List.pairwise_lt_range.filter _
theorem perm_sorted_eq : ∀ {a b : List Int}, a.Perm b → a.Pairwise (· ≤ ·) → b.Pairwise (· ≤ ·) → a = b
  | [], b, p, _, _ => (List.perm_nil.mp p.symm).symm
  | x :: r, [], p, _, _ => absurd p.length_eq (by simp)
  | x :: r, y :: t, p, h1, h2 => by
    obtain ⟨g1, g2⟩ := List.pairwise_cons.mp h1
    obtain ⟨k1, k2⟩ := List.pairwise_cons.mp h2
    have hxy : x = y := by
      have a1 : x ∈ y :: t := p.mem_iff.mp (.head _)
      have a2 : y ∈ x :: r := p.mem_iff.mpr (.head _)
      rcases List.mem_cons.mp a1 with e | e
      · exact e
      · rcases List.mem_cons.mp a2 with e' | e'
        · exact e'.symm
        · have := k1 x e
          have := g1 y e'
          omega
    subst hxy
    rw [perm_sorted_eq (List.Perm.cons_inv p) g2 k2]
theorem perm_range {n' f : List Int} (p : n'.Perm f) (o : n'.Pairwise (· ≤ ·)) (g : f.Perm ((List.range f.length).map fun n : Nat => (n : Int))) : n' = rangeKs 0 (((f.length : Nat) : Int) - 0).toNat := by
  have e : rangeKs 0 (((f.length : Nat) : Int) - 0).toNat = (List.range f.length).map fun n : Nat => (n : Int) := by
    have e2 : (((f.length : Nat) : Int) - 0).toNat = f.length := by omega
    rw [e2]
    unfold rangeKs
    refine List.map_congr_left fun a _ => ?_
    omega
  rw [e]
  refine perm_sorted_eq (p.trans g) o ?_
  rw [List.pairwise_map]
  exact List.pairwise_lt_range.imp fun h => by omega
section
theorem s11 {w : World} {p : Program} {loose : List Str} {mean : ExcName → Option Value} {mg mb : Str → Option Value} {dp un : Nat} {fs : Option (List Env)} {gd : Option (List Code)} {g : Heap} {L fa : Addr} {cd : Value} {s : Shared} {Q : Flow → Shared → Prop}
  (hdp : dp + 40 < recursionLimit) (hun : un + 400 < cLine) (X' : (hd.heap_39 w.params).In g) (T' : Top p loose mean mg mb g) (hC1 : CodeHd g 163 159) (hC2 : CodeHd g 111 107)
  (ret : ∀ h' tk', (∀ b o, g.get? b = some o → h'.get? b = some o) → GrownAt 159 h' → GrownAt 107 h' → Q (.ret (.bool true)) { s with heap := h', toks := tk' })
  {ps7 : Array Value}
  {LV a0 a1 a2 a3 DK b0 b1 b2 b3 : Addr} {nl n0 n1 n2 n3 k0 k1 k2 k3 : Nat} {v0 v1 v2 v3 w0 w1 w2 w3 : List Value} {row : List Nat}
  (hv : IntsAre v0 ((levN 0).map fun n : Nat => (n : Int)) ∧ IntsAre v1 ((levN 1).map fun n : Nat => (n : Int)) ∧ IntsAre v2 ((levN 2).map fun n : Nat => (n : Int)) ∧ IntsAre v3 ((levN 3).map fun n : Nat => (n : Int)))
  (hw : IntsAre w0 ((keptN row 0).map fun n : Nat => (n : Int)) ∧ IntsAre w1 ((keptN row 1).map fun n : Nat => (n : Int)) ∧ IntsAre w2 ((keptN row 2).map fun n : Nat => (n : Int)) ∧ IntsAre w3 ((keptN row 3).map fun n : Nat => (n : Int)))
  (hplain : ∀ k, 1 ≤ k → k ≤ 3 → (keptN row k).length ≤ 10 ∧ (firstN k (keptN row k).length).length ≤ 10 ∧ (firstN k (keptN row k).length).Perm ((List.range (firstN k (keptN row k).length).length).map fun n : Nat => (n : Int)) ∧
    fewF k ((keptN row k).length : Int) = ((firstN k (keptN row k).length).length : Int) ∧ (firstN k (keptN row k).length).length ≤ (leastN row k).length ∧ (leastN row k).length ≤ 160)
  {m : Str → Option Value} (F : Fr g L s.heap m) (hm : Knows m [("levels", .ref LV), ("kept", .ref DK)])
  (h9 : ∀ a ∈ [DK, LV, a0, a1, a2, a3, b0, b1, b2, b3, 107], @Ne Nat a 159)
  (N : News g L s.heap (([(DK, listOf #[.ref b0, .ref b1, .ref b2, .ref b3] 4), (LV, listOf #[.ref a0, .ref a1, .ref a2, .ref a3] nl), (a0, listOf v0.toArray n0), (a1, listOf v1.toArray n1), (a2, listOf v2.toArray n2), (a3, listOf v3.toArray n3), (b0, listOf w0.toArray k0), (b1, listOf w1.toArray k1), (b2, listOf w2.toArray k2), (b3, listOf w3.toArray k3), (107, tabObj ps7)] : List (Addr × Obj)) ++ [(159, tabObj #[])])) :
  wpAny (model PySem.Challenge.rw_ty0032_01.row.prog w) ((arA dp un fs gd).deeper (lawEnv L fa cd)) (execs (lawR.body.drop 15) (lawEnv L fa cd)) Q (fun _ _ => False) s := by
    unfold lawEnv
    dsimp only [lawR, recOf, List.drop]
    replace F := fr_knows hm F
    clear hm
    dsimp only [List.cons_append, List.nil_append] at N
    (repeat' (first | (k_unfold; (try dsimp only)) | row_room_at HE | (k_end; wrow_close) | ((with_reducible show wpAny _ _ (pyIter (Value.ref _)) _ _ _); (k_here; (with_reducible show wpAny _ _ (pyIter _) (fun _ _ => ForAt _ _ _ _ _ _ _ _ _ _ _) _ _); refine halt ?_)) | ((with_reducible show wpAny _ _ (exec (Stmt.For _ _ _ _ _) _) _ _ _); k_here; refine halt ?_) | ((with_reducible show wpAny _ _ (subscriptTail _ _ (Value.ref _) (Value.int _ _)) _ _ _); k_here; refine halt ?_) | ((with_reducible show wpAny _ _ (compareOp CmpOp.NotEq (Value.ref _) (Value.ref _)) _ _ _); (k_here; refine halt ?_)) | ((with_reducible show wpAny _ _ (call (Value.builtin "len") _ _) _ _ _); (k_here; (with_reducible show wpAny _ _ (call (Value.builtin "len") [Value.ref _]) _ _ _); refine halt ?_)) | ((with_reducible show wpAny _ _ (call (Value.ref _) _) _ _ _); k_here; refine halt ?_) | row_room_at HB | (dsimp only; (first | ((with_reducible show wpAny _ _ (pyIter (Value.ref _)) _ _ _); (k_here; (with_reducible show wpAny _ _ (pyIter _) (fun _ _ => ForAt _ _ _ _ _ _ _ _ _ _ _) _ _); refine halt ?_)) | ((with_reducible show wpAny _ _ (exec (Stmt.For _ _ _ _ _) _) _ _ _); k_here; refine halt ?_) | ((with_reducible show wpAny _ _ (subscriptTail _ _ (Value.ref _) (Value.int _ _)) _ _ _); k_here; refine halt ?_) | ((with_reducible show wpAny _ _ (compareOp CmpOp.NotEq (Value.ref _) (Value.ref _)) _ _ _); (k_here; refine halt ?_)) | ((with_reducible show wpAny _ _ (call (Value.builtin "len") _ _) _ _ _); (k_here; (with_reducible show wpAny _ _ (call (Value.builtin "len") [Value.ref _]) _ _ _); refine halt ?_)) | ((with_reducible show wpAny _ _ (call (Value.ref _) _) _ _ _); k_here; refine halt ?_) | walk1 | row_room_at HE)) | (leave1; walk_say "STEP leave1"; try dsimp only)))
    refine go ?_
    refine For_start ?_
    (repeat' (first | (k_unfold; (try dsimp only)) | row_room_at HE | (k_end; wrow_close) | ((with_reducible show wpAny _ _ (pyIter (Value.ref _)) _ _ _); (k_here; (with_reducible show wpAny _ _ (pyIter _) (fun _ _ => ForAt _ _ _ _ _ _ _ _ _ _ _) _ _); refine halt ?_)) | ((with_reducible show wpAny _ _ (exec (Stmt.For _ _ _ _ _) _) _ _ _); k_here; refine halt ?_) | ((with_reducible show wpAny _ _ (subscriptTail _ _ (Value.ref _) (Value.int _ _)) _ _ _); k_here; refine halt ?_) | ((with_reducible show wpAny _ _ (compareOp CmpOp.NotEq (Value.ref _) (Value.ref _)) _ _ _); (k_here; refine halt ?_)) | ((with_reducible show wpAny _ _ (call (Value.builtin "len") _ _) _ _ _); (k_here; (with_reducible show wpAny _ _ (call (Value.builtin "len") [Value.ref _]) _ _ _); refine halt ?_)) | ((with_reducible show wpAny _ _ (call (Value.ref _) _) _ _ _); k_here; refine halt ?_) | row_room_at HB | (dsimp only; (first | ((with_reducible show wpAny _ _ (pyIter (Value.ref _)) _ _ _); (k_here; (with_reducible show wpAny _ _ (pyIter _) (fun _ _ => ForAt _ _ _ _ _ _ _ _ _ _ _) _ _); refine halt ?_)) | ((with_reducible show wpAny _ _ (exec (Stmt.For _ _ _ _ _) _) _ _ _); k_here; refine halt ?_) | ((with_reducible show wpAny _ _ (subscriptTail _ _ (Value.ref _) (Value.int _ _)) _ _ _); k_here; refine halt ?_) | ((with_reducible show wpAny _ _ (compareOp CmpOp.NotEq (Value.ref _) (Value.ref _)) _ _ _); (k_here; refine halt ?_)) | ((with_reducible show wpAny _ _ (call (Value.builtin "len") _ _) _ _ _); (k_here; (with_reducible show wpAny _ _ (call (Value.builtin "len") [Value.ref _]) _ _ _); refine halt ?_)) | ((with_reducible show wpAny _ _ (call (Value.ref _) _) _ _ _); k_here; refine halt ?_) | walk1 | row_room_at HE)) | (leave1; walk_say "STEP leave1"; try dsimp only)))
    refine go ?_
    (with_reducible rename Fr _ _ _ _ => F1)
    (with_reducible rename News _ _ _ _ => N1)
    rename_i T1 _ _
    refine for_tuple rfl (fun j m news => ∃ tabs, (TabMiss tabs ∨ TabHit tabs) ∧ (∀ a ∈ [T1, DK, LV, a0, a1, a2, a3, b0, b1, b2, b3, 107], ∀ p ∈ tabs, @Ne Nat a p.1) ∧ Knows m [("levels", .ref LV), ("kept", .ref DK)] ∧ news = (T1, _) :: (([(DK, listOf #[.ref b0, .ref b1, .ref b2, .ref b3] 4), (LV, listOf #[.ref a0, .ref a1, .ref a2, .ref a3] nl), (a0, listOf v0.toArray n0), (a1, listOf v1.toArray n1), (a2, listOf v2.toArray n2), (a3, listOf v3.toArray n3), (b0, listOf w0.toArray k0), (b1, listOf w1.toArray k1), (b2, listOf w2.toArray k2), (b3, listOf w3.toArray k3), (107, tabObj ps7)] : List (Addr × Obj)) ++ tabs)) F1 N1 (.head _) ⟨_, .inl rfl, ?_, ⟨rfl, rfl, trivial⟩, rfl⟩ ?_ ?_ ?_ PassesOwn.never
    · intro q hq p hp
      rw [List.mem_singleton.mp hp]
      rcases List.mem_cons.mp hq with rfl | hq
      · refine Ne.symm (Nat.ne_of_lt (?_ : @LT.lt Nat _ 159 q))
        omega
      · exact h9 q hq
    · intro j m news jz3
      (refine hideP ?_; intro PP hPP); (obtain ⟨tabs, _, _, _, rfl⟩ := jz3) <;> (refine hPP ?_; clear hPP; clear PP)
      exact .head _
    · clear F1 N1
      intro I j v m news oI h tk hI hv9 jz10
      (refine hideP ?_; intro PP hPP); (obtain ⟨tabs, htab, hdis, e1, rfl⟩ := jz10) <;> (refine hPP ?_; clear hPP; clear PP)
      intro off F N
      replace F := fr_knows e1 F
      clear e1
      (refine hideP ?_; intro PP hPP); (obtain ⟨hj3, tj, rfl⟩ := ints3_at hv9) <;> (refine hPP ?_; clear hPP; clear PP)
      have hget : ([(1 : Int), 2, 3].getD j 0) = ((j + 1 : Nat) : Int) := by
        obtain rfl | rfl | rfl : j = 0 ∨ j = 1 ∨ j = 2 := by omega
        all_goals rfl
      rw [hget]
      clear hv9 hget
      obtain ⟨ax, vv, nn, hga, hvv, hax⟩ : ∃ ax vv nn, (#[.ref a0, .ref a1, .ref a2, .ref a3] : Array Value)[j]? = some (.ref ax) ∧ IntsAre vv ((levN j).map fun n : Nat => (n : Int)) ∧ (ax, listOf vv.toArray nn) ∈ ([(DK, listOf #[.ref b0, .ref b1, .ref b2, .ref b3] 4), (LV, listOf #[.ref a0, .ref a1, .ref a2, .ref a3] nl), (a0, listOf v0.toArray n0), (a1, listOf v1.toArray n1), (a2, listOf v2.toArray n2), (a3, listOf v3.toArray n3), (b0, listOf w0.toArray k0), (b1, listOf w1.toArray k1), (b2, listOf w2.toArray k2), (b3, listOf w3.toArray k3), (107, tabObj ps7)] : List (Addr × Obj)) := by
        obtain rfl | rfl | rfl : j = 0 ∨ j = 1 ∨ j = 2 := by omega
        · exact ⟨a0, v0, n0, rfl, hv.1, by k_mem⟩
        · exact ⟨a1, v1, n1, rfl, hv.2.1, by k_mem⟩
        · exact ⟨a2, v2, n2, rfl, hv.2.2.1, by k_mem⟩
      obtain ⟨ay, vy, ny, hgy, hvy, hay⟩ : ∃ ax vv nn, (#[.ref a0, .ref a1, .ref a2, .ref a3] : Array Value)[j + 1]? = some (.ref ax) ∧ IntsAre vv ((levN (j + 1)).map fun n : Nat => (n : Int)) ∧ (ax, listOf vv.toArray nn) ∈ ([(DK, listOf #[.ref b0, .ref b1, .ref b2, .ref b3] 4), (LV, listOf #[.ref a0, .ref a1, .ref a2, .ref a3] nl), (a0, listOf v0.toArray n0), (a1, listOf v1.toArray n1), (a2, listOf v2.toArray n2), (a3, listOf v3.toArray n3), (b0, listOf w0.toArray k0), (b1, listOf w1.toArray k1), (b2, listOf w2.toArray k2), (b3, listOf w3.toArray k3), (107, tabObj ps7)] : List (Addr × Obj)) := by
        obtain rfl | rfl | rfl : j = 0 ∨ j = 1 ∨ j = 2 := by omega
        · exact ⟨a1, v1, n1, rfl, hv.2.1, by k_mem⟩
        · exact ⟨a2, v2, n2, rfl, hv.2.2.1, by k_mem⟩
        · exact ⟨a3, v3, n3, rfl, hv.2.2.2, by k_mem⟩
      obtain ⟨bx, wv, mm, hgb, hwv, hbx⟩ : ∃ bx wv mm, (#[.ref b0, .ref b1, .ref b2, .ref b3] : Array Value)[j + 1]? = some (.ref bx) ∧ IntsAre wv ((keptN row (j + 1)).map fun n : Nat => (n : Int)) ∧ (bx, listOf wv.toArray mm) ∈ ([(DK, listOf #[.ref b0, .ref b1, .ref b2, .ref b3] 4), (LV, listOf #[.ref a0, .ref a1, .ref a2, .ref a3] nl), (a0, listOf v0.toArray n0), (a1, listOf v1.toArray n1), (a2, listOf v2.toArray n2), (a3, listOf v3.toArray n3), (b0, listOf w0.toArray k0), (b1, listOf w1.toArray k1), (b2, listOf w2.toArray k2), (b3, listOf w3.toArray k3), (107, tabObj ps7)] : List (Addr × Obj)) := by
        obtain rfl | rfl | rfl : j = 0 ∨ j = 1 ∨ j = 2 := by omega
        · exact ⟨b1, w1, k1, rfl, hw.2.1, by k_mem⟩
        · exact ⟨b2, w2, k2, rfl, hw.2.2.1, by k_mem⟩
        · exact ⟨b3, w3, k3, rfl, hw.2.2.2, by k_mem⟩
      have hlv : ∀ k, (levN k).length ≤ 32 := fun k => Nat.le_trans (List.length_filter_le _ _) (Nat.le_of_eq List.length_range)
      have hwvl : wv.toArray.size = (keptN row (j + 1)).length := by rw [List.size_toArray, hwv.length, List.length_map]
      have hvyl : vy.length = (levN (j + 1)).length := by rw [hvy.length, List.length_map]
      have hl1 : ((levN (j + 1)).map fun n : Nat => (n : Int)).length ≤ 32 := by rw [List.length_map]; exact hlv _
      have hl2 : vy.length ≤ 32 := by rw [hvyl]; exact hlv _
      have hl3 : (levN (j + 1)).length ≤ 32 := hlv _
      have hkl : (keptN row (j + 1)).length ≤ 32 := Nat.le_trans (List.length_filter_le _ _) (hlv _)
      replace N : News g L h ((ay, listOf vy.toArray ny) :: (ax, listOf vv.toArray nn) :: (bx, listOf wv.toArray mm) :: (I, oI) :: (T1, _) :: (([(DK, listOf #[.ref b0, .ref b1, .ref b2, .ref b3] 4), (LV, listOf #[.ref a0, .ref a1, .ref a2, .ref a3] nl), (a0, listOf v0.toArray n0), (a1, listOf v1.toArray n1), (a2, listOf v2.toArray n2), (a3, listOf v3.toArray n3), (b0, listOf w0.toArray k0), (b1, listOf w1.toArray k1), (b2, listOf w2.toArray k2), (b3, listOf w3.toArray k3), (107, tabObj ps7)] : List (Addr × Obj)) ++ tabs)) := news_sub N (fun q hq => by
        rcases List.mem_cons.mp hq with rfl | hq
        · exact .tail _ (.tail _ (List.mem_append_left _ hay))
        rcases List.mem_cons.mp hq with rfl | hq
        · exact .tail _ (.tail _ (List.mem_append_left _ hax))
        rcases List.mem_cons.mp hq with rfl | hq
        · exact .tail _ (.tail _ (List.mem_append_left _ hbx))
        · exact hq)
      dsimp only [List.cons_append, List.nil_append] at N
      (repeat' (first | (k_unfold; (try dsimp only)) | row_room_at HE | (k_end; wrow_close) | ((with_reducible show wpAny _ _ (pyIter (Value.ref _)) _ _ _); (k_here; (with_reducible show wpAny _ _ (pyIter _) (fun _ _ => ForAt _ _ _ _ _ _ _ _ _ _ _) _ _); refine halt ?_)) | ((with_reducible show wpAny _ _ (exec (Stmt.For _ _ _ _ _) _) _ _ _); k_here; refine halt ?_) | ((with_reducible show wpAny _ _ (subscriptTail _ _ (Value.ref _) (Value.int _ _)) _ _ _); k_here; refine halt ?_) | ((with_reducible show wpAny _ _ (compareOp CmpOp.NotEq (Value.ref _) (Value.ref _)) _ _ _); (k_here; refine halt ?_)) | ((with_reducible show wpAny _ _ (call (Value.builtin "len") _ _) _ _ _); (k_here; (with_reducible show wpAny _ _ (call (Value.builtin "len") [Value.ref _]) _ _ _); refine halt ?_)) | ((with_reducible show wpAny _ _ (call (Value.ref _) _) _ _ _); k_here; refine halt ?_) | row_room_at HB | (dsimp only; (first | ((with_reducible show wpAny _ _ (pyIter (Value.ref _)) _ _ _); (k_here; (with_reducible show wpAny _ _ (pyIter _) (fun _ _ => ForAt _ _ _ _ _ _ _ _ _ _ _) _ _); refine halt ?_)) | ((with_reducible show wpAny _ _ (exec (Stmt.For _ _ _ _ _) _) _ _ _); k_here; refine halt ?_) | ((with_reducible show wpAny _ _ (subscriptTail _ _ (Value.ref _) (Value.int _ _)) _ _ _); k_here; refine halt ?_) | ((with_reducible show wpAny _ _ (compareOp CmpOp.NotEq (Value.ref _) (Value.ref _)) _ _ _); (k_here; refine halt ?_)) | ((with_reducible show wpAny _ _ (call (Value.builtin "len") _ _) _ _ _); (k_here; (with_reducible show wpAny _ _ (call (Value.builtin "len") [Value.ref _]) _ _ _); refine halt ?_)) | ((with_reducible show wpAny _ _ (call (Value.ref _) _) _ _ _); k_here; refine halt ?_) | walk1 | row_room_at HE)) | (leave1; walk_say "STEP leave1"; try dsimp only)))
      refine go ?_
      (with_reducible rename Fr _ _ _ _ => F2)
      (with_reducible rename News _ _ _ _ => N2)
      refine' tail_K (its := #[.ref b0, .ref b1, .ref b2, .ref b3]) (n := 4) (x := .ref bx) ?g1N ?g1m ?g1a ?g1b ?g1c ?_
      (case g1N => exact N2)
      (case g1m => k_mem)
      (case g1a => omega)
      (case g1b => omega)
      (case g1c => rw [Int.toNat_natCast]; exact hgb)
      (repeat' (first | (k_unfold; (try dsimp only)) | row_room_at HE | (k_end; wrow_close) | ((with_reducible show wpAny _ _ (pyIter (Value.ref _)) _ _ _); (k_here; (with_reducible show wpAny _ _ (pyIter _) (fun _ _ => ForAt _ _ _ _ _ _ _ _ _ _ _) _ _); refine halt ?_)) | ((with_reducible show wpAny _ _ (exec (Stmt.For _ _ _ _ _) _) _ _ _); k_here; refine halt ?_) | ((with_reducible show wpAny _ _ (subscriptTail _ _ (Value.ref _) (Value.int _ _)) _ _ _); k_here; refine halt ?_) | ((with_reducible show wpAny _ _ (compareOp CmpOp.NotEq (Value.ref _) (Value.ref _)) _ _ _); (k_here; refine halt ?_)) | ((with_reducible show wpAny _ _ (call (Value.builtin "len") _ _) _ _ _); (k_here; (with_reducible show wpAny _ _ (call (Value.builtin "len") [Value.ref _]) _ _ _); refine halt ?_)) | ((with_reducible show wpAny _ _ (call (Value.ref _) _) _ _ _); k_here; refine halt ?_) | row_room_at HB | (dsimp only; (first | ((with_reducible show wpAny _ _ (pyIter (Value.ref _)) _ _ _); (k_here; (with_reducible show wpAny _ _ (pyIter _) (fun _ _ => ForAt _ _ _ _ _ _ _ _ _ _ _) _ _); refine halt ?_)) | ((with_reducible show wpAny _ _ (exec (Stmt.For _ _ _ _ _) _) _ _ _); k_here; refine halt ?_) | ((with_reducible show wpAny _ _ (subscriptTail _ _ (Value.ref _) (Value.int _ _)) _ _ _); k_here; refine halt ?_) | ((with_reducible show wpAny _ _ (compareOp CmpOp.NotEq (Value.ref _) (Value.ref _)) _ _ _); (k_here; refine halt ?_)) | ((with_reducible show wpAny _ _ (call (Value.builtin "len") _ _) _ _ _); (k_here; (with_reducible show wpAny _ _ (call (Value.builtin "len") [Value.ref _]) _ _ _); refine halt ?_)) | ((with_reducible show wpAny _ _ (call (Value.ref _) _) _ _ _); k_here; refine halt ?_) | walk1 | row_room_at HE)) | (leave1; walk_say "STEP leave1"; try dsimp only)))
      refine go ?_
      (with_reducible rename Fr _ _ _ _ => F3)
      (with_reducible rename News _ _ _ _ => N3)
      refine KM.len_K (n := (keptN row (j + 1)).length) N3 (.tail _ (.tail _ (.head _))) hwvl (by omega) ?_
      (repeat' (first | (k_unfold; (try dsimp only)) | row_room_at HE | (k_end; wrow_close) | ((with_reducible show wpAny _ _ (pyIter (Value.ref _)) _ _ _); (k_here; (with_reducible show wpAny _ _ (pyIter _) (fun _ _ => ForAt _ _ _ _ _ _ _ _ _ _ _) _ _); refine halt ?_)) | ((with_reducible show wpAny _ _ (exec (Stmt.For _ _ _ _ _) _) _ _ _); k_here; refine halt ?_) | ((with_reducible show wpAny _ _ (subscriptTail _ _ (Value.ref _) (Value.int _ _)) _ _ _); k_here; refine halt ?_) | ((with_reducible show wpAny _ _ (compareOp CmpOp.NotEq (Value.ref _) (Value.ref _)) _ _ _); (k_here; refine halt ?_)) | ((with_reducible show wpAny _ _ (call (Value.builtin "len") _ _) _ _ _); (k_here; (with_reducible show wpAny _ _ (call (Value.builtin "len") [Value.ref _]) _ _ _); refine halt ?_)) | ((with_reducible show wpAny _ _ (call (Value.ref _) _) _ _ _); k_here; refine halt ?_) | row_room_at HB | (dsimp only; (first | ((with_reducible show wpAny _ _ (pyIter (Value.ref _)) _ _ _); (k_here; (with_reducible show wpAny _ _ (pyIter _) (fun _ _ => ForAt _ _ _ _ _ _ _ _ _ _ _) _ _); refine halt ?_)) | ((with_reducible show wpAny _ _ (exec (Stmt.For _ _ _ _ _) _) _ _ _); k_here; refine halt ?_) | ((with_reducible show wpAny _ _ (subscriptTail _ _ (Value.ref _) (Value.int _ _)) _ _ _); k_here; refine halt ?_) | ((with_reducible show wpAny _ _ (compareOp CmpOp.NotEq (Value.ref _) (Value.ref _)) _ _ _); (k_here; refine halt ?_)) | ((with_reducible show wpAny _ _ (call (Value.builtin "len") _ _) _ _ _); (k_here; (with_reducible show wpAny _ _ (call (Value.builtin "len") [Value.ref _]) _ _ _); refine halt ?_)) | ((with_reducible show wpAny _ _ (call (Value.ref _) _) _ _ _); k_here; refine halt ?_) | walk1 | row_room_at HE)) | (leave1; walk_say "STEP leave1"; try dsimp only)))
      refine go ?_
      (with_reducible rename Fr _ _ _ _ => F4)
      (with_reducible rename News _ _ _ _ => N4)
      refine' tail_K (its := #[.ref a0, .ref a1, .ref a2, .ref a3]) (n := nl) (x := .ref ax) ?g2N ?g2m ?g2a ?g2b ?g2c ?_
      (case g2N => exact N4)
      (case g2m => k_mem)
      (case g2a => omega)
      (case g2b => omega)
      (case g2c => rw [show (((j + 1 : Nat) : Int) - 1).toNat = j by omega]; exact hga)
      (repeat' (first | (k_unfold; (try dsimp only)) | row_room_at HE | (k_end; wrow_close) | ((with_reducible show wpAny _ _ (pyIter (Value.ref _)) _ _ _); (k_here; (with_reducible show wpAny _ _ (pyIter _) (fun _ _ => ForAt _ _ _ _ _ _ _ _ _ _ _) _ _); refine halt ?_)) | ((with_reducible show wpAny _ _ (exec (Stmt.For _ _ _ _ _) _) _ _ _); k_here; refine halt ?_) | ((with_reducible show wpAny _ _ (subscriptTail _ _ (Value.ref _) (Value.int _ _)) _ _ _); k_here; refine halt ?_) | ((with_reducible show wpAny _ _ (compareOp CmpOp.NotEq (Value.ref _) (Value.ref _)) _ _ _); (k_here; refine halt ?_)) | ((with_reducible show wpAny _ _ (call (Value.builtin "len") _ _) _ _ _); (k_here; (with_reducible show wpAny _ _ (call (Value.builtin "len") [Value.ref _]) _ _ _); refine halt ?_)) | ((with_reducible show wpAny _ _ (call (Value.ref _) _) _ _ _); k_here; refine halt ?_) | row_room_at HB | (dsimp only; (first | ((with_reducible show wpAny _ _ (pyIter (Value.ref _)) _ _ _); (k_here; (with_reducible show wpAny _ _ (pyIter _) (fun _ _ => ForAt _ _ _ _ _ _ _ _ _ _ _) _ _); refine halt ?_)) | ((with_reducible show wpAny _ _ (exec (Stmt.For _ _ _ _ _) _) _ _ _); k_here; refine halt ?_) | ((with_reducible show wpAny _ _ (subscriptTail _ _ (Value.ref _) (Value.int _ _)) _ _ _); k_here; refine halt ?_) | ((with_reducible show wpAny _ _ (compareOp CmpOp.NotEq (Value.ref _) (Value.ref _)) _ _ _); (k_here; refine halt ?_)) | ((with_reducible show wpAny _ _ (call (Value.builtin "len") _ _) _ _ _); (k_here; (with_reducible show wpAny _ _ (call (Value.builtin "len") [Value.ref _]) _ _ _); refine halt ?_)) | ((with_reducible show wpAny _ _ (call (Value.ref _) _) _ _ _); k_here; refine halt ?_) | walk1 | row_room_at HE)) | (leave1; walk_say "STEP leave1"; try dsimp only)))
      refine go ?_
      (with_reducible rename Fr _ _ _ _ => F5)
      (with_reducible rename News _ _ _ _ => N5)
      refine' tail_K (its := #[.ref a0, .ref a1, .ref a2, .ref a3]) (n := nl) (x := .ref ay) ?g3N ?g3m ?g3a ?g3b ?g3c ?_
      (case g3N => exact N5)
      (case g3m => k_mem)
      (case g3a => omega)
      (case g3b => omega)
      (case g3c => rw [Int.toNat_natCast]; exact hgy)
      (repeat' (first | (k_unfold; (try dsimp only)) | row_room_at HE | (k_end; wrow_close) | ((with_reducible show wpAny _ _ (pyIter (Value.ref _)) _ _ _); (k_here; (with_reducible show wpAny _ _ (pyIter _) (fun _ _ => ForAt _ _ _ _ _ _ _ _ _ _ _) _ _); refine halt ?_)) | ((with_reducible show wpAny _ _ (exec (Stmt.For _ _ _ _ _) _) _ _ _); k_here; refine halt ?_) | ((with_reducible show wpAny _ _ (subscriptTail _ _ (Value.ref _) (Value.int _ _)) _ _ _); k_here; refine halt ?_) | ((with_reducible show wpAny _ _ (compareOp CmpOp.NotEq (Value.ref _) (Value.ref _)) _ _ _); (k_here; refine halt ?_)) | ((with_reducible show wpAny _ _ (call (Value.builtin "len") _ _) _ _ _); (k_here; (with_reducible show wpAny _ _ (call (Value.builtin "len") [Value.ref _]) _ _ _); refine halt ?_)) | ((with_reducible show wpAny _ _ (call (Value.ref _) _) _ _ _); k_here; refine halt ?_) | row_room_at HB | (dsimp only; (first | ((with_reducible show wpAny _ _ (pyIter (Value.ref _)) _ _ _); (k_here; (with_reducible show wpAny _ _ (pyIter _) (fun _ _ => ForAt _ _ _ _ _ _ _ _ _ _ _) _ _); refine halt ?_)) | ((with_reducible show wpAny _ _ (exec (Stmt.For _ _ _ _ _) _) _ _ _); k_here; refine halt ?_) | ((with_reducible show wpAny _ _ (subscriptTail _ _ (Value.ref _) (Value.int _ _)) _ _ _); k_here; refine halt ?_) | ((with_reducible show wpAny _ _ (compareOp CmpOp.NotEq (Value.ref _) (Value.ref _)) _ _ _); (k_here; refine halt ?_)) | ((with_reducible show wpAny _ _ (call (Value.builtin "len") _ _) _ _ _); (k_here; (with_reducible show wpAny _ _ (call (Value.builtin "len") [Value.ref _]) _ _ _); refine halt ?_)) | ((with_reducible show wpAny _ _ (call (Value.ref _) _) _ _ _); k_here; refine halt ?_) | walk1 | row_room_at HE)) | (leave1; walk_say "STEP leave1"; try dsimp only)))
      refine go ?_
      (with_reducible rename Fr _ _ _ _ => F6)
      (with_reducible rename News _ _ _ _ => N6)
      rename_i D1 ws1 _ hI1 _ _ _
      rw [Int.toNat_natCast, ← List.map_take] at hI1
      refine' places_call (fam := (levN (j + 1)).take (keptN row (j + 1)).length) (lev := (levN j).map fun n : Nat => (n : Int)) ?ea ?eb X' T' ?ec ?ed ?ee hvv ?ef ?eg hI1 (hn_of N6 ?eh) ?_
      (case ea => (first | exact lim2 hdp rfl | exact lim1 hdp rfl | exact lim2 hun rfl | exact lim1 hun rfl | exact lim0 hdp | exact lim0 hun | exact lim3 hdp rfl | exact lim3 hun rfl | ((try dsimp only [arA, Around.deeper]); omega)))
      (case eb => (first | exact lim2 hdp rfl | exact lim1 hdp rfl | exact lim2 hun rfl | exact lim1 hun rfl | exact lim0 hdp | exact lim0 hun | exact lim3 hdp rfl | exact lim3 hun rfl | ((try dsimp only [arA, Around.deeper]); omega)))
      (case ec => exact F6.keep)
      (case ed => exact fun m hm => (levN_mem (List.mem_of_mem_take hm)).1)
      (case ee => rw [List.length_take]; omega)
      (case ef => rw [List.length_map]; exact Nat.lt_of_le_of_lt (hlv _) (by decide))
      (case eg => exact sorted_map (levN_sorted j))
      (case eh =>
        intro q hq
        revert hq
        revert q
        refine' all_cons ?_ (all_cons ?_ (all_nil))
        all_goals k_mem)
      intro h7 tk7 FD vF nF hvF kp7 eF nF0
      have F7 := fr_kept0 F6 kp7
      have N7 := news_new (led := [(FD, listOf vF.toArray nF)]) F6 (news_tail N6) kp7 (fun q hq => by simp) (fun q hq => by rw [List.mem_singleton.mp hq]; exact ⟨eF, nF0⟩)
      have hFtab : ∀ p ∈ tabs, @Ne Nat p.1 FD := fun p hp => ne_new (N6 p (List.mem_cons_of_mem _ (by simp [hp]))).1 nF0
      have hFB : ∀ a ∈ [T1, DK, LV, a0, a1, a2, a3, b0, b1, b2, b3, 107], @Ne Nat a FD := fun a ha => by
        revert ha
        revert a
        refine' all_cons ?_ (all_cons ?_ (all_cons ?_ (all_cons ?_ (all_cons ?_ (all_cons ?_ (all_cons ?_ (all_cons ?_ (all_cons ?_ (all_cons ?_ (all_cons ?_ (all_cons ?_ (all_nil))))))))))))
        all_goals exact ne_new (N6 (_, _) (by k_mem)).1 nF0
      clear F6 N6 kp7 eF nF0 hI1
      dsimp only [List.cons_append, List.nil_append] at N7
      rw [show placesF ((levN j).map fun n : Nat => (n : Int)) ((levN (j + 1)).take (keptN row (j + 1)).length) = firstN (j + 1) (keptN row (j + 1)).length from rfl] at hvF
      (refine hideP ?_; intro PP hPP); (obtain ⟨g1, g2, g3, g4, g5, g6⟩ := hplain (j + 1) (by omega) (by omega)) <;> (refine hPP ?_; clear hPP; clear PP)
      generalize hfirst : firstN (j + 1) (keptN row (j + 1)).length = f at hvF g2 g3 g4 g5
      have hfl : vF.length ≤ 10 := by rw [hvF.length]; exact g2
      have hfs : vF.toArray.size = f.length := by rw [List.size_toArray, hvF.length]
      (repeat' (first | (k_unfold; (try dsimp only)) | row_room_at HE | (k_end; wrow_close) | ((with_reducible show wpAny _ _ (pyIter (Value.ref _)) _ _ _); (k_here; (with_reducible show wpAny _ _ (pyIter _) (fun _ _ => ForAt _ _ _ _ _ _ _ _ _ _ _) _ _); refine halt ?_)) | ((with_reducible show wpAny _ _ (exec (Stmt.For _ _ _ _ _) _) _ _ _); k_here; refine halt ?_) | ((with_reducible show wpAny _ _ (subscriptTail _ _ (Value.ref _) (Value.int _ _)) _ _ _); k_here; refine halt ?_) | ((with_reducible show wpAny _ _ (compareOp CmpOp.NotEq (Value.ref _) (Value.ref _)) _ _ _); (k_here; refine halt ?_)) | ((with_reducible show wpAny _ _ (call (Value.builtin "len") _ _) _ _ _); (k_here; (with_reducible show wpAny _ _ (call (Value.builtin "len") [Value.ref _]) _ _ _); refine halt ?_)) | ((with_reducible show wpAny _ _ (call (Value.ref _) _) _ _ _); k_here; refine halt ?_) | row_room_at HB | (dsimp only; (first | ((with_reducible show wpAny _ _ (pyIter (Value.ref _)) _ _ _); (k_here; (with_reducible show wpAny _ _ (pyIter _) (fun _ _ => ForAt _ _ _ _ _ _ _ _ _ _ _) _ _); refine halt ?_)) | ((with_reducible show wpAny _ _ (exec (Stmt.For _ _ _ _ _) _) _ _ _); k_here; refine halt ?_) | ((with_reducible show wpAny _ _ (subscriptTail _ _ (Value.ref _) (Value.int _ _)) _ _ _); k_here; refine halt ?_) | ((with_reducible show wpAny _ _ (compareOp CmpOp.NotEq (Value.ref _) (Value.ref _)) _ _ _); (k_here; refine halt ?_)) | ((with_reducible show wpAny _ _ (call (Value.builtin "len") _ _) _ _ _); (k_here; (with_reducible show wpAny _ _ (call (Value.builtin "len") [Value.ref _]) _ _ _); refine halt ?_)) | ((with_reducible show wpAny _ _ (call (Value.ref _) _) _ _ _); k_here; refine halt ?_) | walk1 | row_room_at HE)) | (leave1; walk_say "STEP leave1"; try dsimp only)))
      refine go ?_
      (with_reducible rename Fr _ _ _ _ => F8)
      (with_reducible rename News _ _ _ _ => N8)
      refine KM.len_K (n := f.length) N8 (.tail _ (.head _)) hfs (by omega) ?_
      (repeat' (first | (k_unfold; (try dsimp only)) | row_room_at HE | (k_end; wrow_close) | ((with_reducible show wpAny _ _ (pyIter (Value.ref _)) _ _ _); (k_here; (with_reducible show wpAny _ _ (pyIter _) (fun _ _ => ForAt _ _ _ _ _ _ _ _ _ _ _) _ _); refine halt ?_)) | ((with_reducible show wpAny _ _ (exec (Stmt.For _ _ _ _ _) _) _ _ _); k_here; refine halt ?_) | ((with_reducible show wpAny _ _ (subscriptTail _ _ (Value.ref _) (Value.int _ _)) _ _ _); k_here; refine halt ?_) | ((with_reducible show wpAny _ _ (compareOp CmpOp.NotEq (Value.ref _) (Value.ref _)) _ _ _); (k_here; refine halt ?_)) | ((with_reducible show wpAny _ _ (call (Value.builtin "len") _ _) _ _ _); (k_here; (with_reducible show wpAny _ _ (call (Value.builtin "len") [Value.ref _]) _ _ _); refine halt ?_)) | ((with_reducible show wpAny _ _ (call (Value.ref _) _) _ _ _); k_here; refine halt ?_) | row_room_at HB | (dsimp only; (first | ((with_reducible show wpAny _ _ (pyIter (Value.ref _)) _ _ _); (k_here; (with_reducible show wpAny _ _ (pyIter _) (fun _ _ => ForAt _ _ _ _ _ _ _ _ _ _ _) _ _); refine halt ?_)) | ((with_reducible show wpAny _ _ (exec (Stmt.For _ _ _ _ _) _) _ _ _); k_here; refine halt ?_) | ((with_reducible show wpAny _ _ (subscriptTail _ _ (Value.ref _) (Value.int _ _)) _ _ _); k_here; refine halt ?_) | ((with_reducible show wpAny _ _ (compareOp CmpOp.NotEq (Value.ref _) (Value.ref _)) _ _ _); (k_here; refine halt ?_)) | ((with_reducible show wpAny _ _ (call (Value.builtin "len") _ _) _ _ _); (k_here; (with_reducible show wpAny _ _ (call (Value.builtin "len") [Value.ref _]) _ _ _); refine halt ?_)) | ((with_reducible show wpAny _ _ (call (Value.ref _) _) _ _ _); k_here; refine halt ?_) | walk1 | row_room_at HE)) | (leave1; walk_say "STEP leave1"; try dsimp only)))
      refine go ?_
      (with_reducible rename Fr _ _ _ _ => F9)
      (with_reducible rename News _ _ _ _ => N9)
      refine' ke_ne_ints ?ja ?jb ?jc ?jd ?ju ?_
      (case ja => exact News.isList N9 (.tail _ (.head _)))
      (case jb => exact News.isList N9 (.head _))
      (case jc => assumption)
      (case jd => assumption)
      (case ju => (first | exact lim2 hdp rfl | exact lim1 hdp rfl | exact lim2 hun rfl | exact lim1 hun rfl | exact lim0 hdp | exact lim0 hun | exact lim3 hdp rfl | exact lim3 hun rfl | ((try dsimp only [arA, Around.deeper]); omega)))
      rw [decide_eq_true (perm_range (by assumption) (by assumption) g3)]
      (repeat' (first | (k_unfold; (try dsimp only)) | row_room_at HE | (k_end; wrow_close) | ((with_reducible show wpAny _ _ (pyIter (Value.ref _)) _ _ _); (k_here; (with_reducible show wpAny _ _ (pyIter _) (fun _ _ => ForAt _ _ _ _ _ _ _ _ _ _ _) _ _); refine halt ?_)) | ((with_reducible show wpAny _ _ (exec (Stmt.For _ _ _ _ _) _) _ _ _); k_here; refine halt ?_) | ((with_reducible show wpAny _ _ (subscriptTail _ _ (Value.ref _) (Value.int _ _)) _ _ _); k_here; refine halt ?_) | ((with_reducible show wpAny _ _ (compareOp CmpOp.NotEq (Value.ref _) (Value.ref _)) _ _ _); (k_here; refine halt ?_)) | ((with_reducible show wpAny _ _ (call (Value.builtin "len") _ _) _ _ _); (k_here; (with_reducible show wpAny _ _ (call (Value.builtin "len") [Value.ref _]) _ _ _); refine halt ?_)) | ((with_reducible show wpAny _ _ (call (Value.ref _) _) _ _ _); k_here; refine halt ?_) | row_room_at HB | (dsimp only; (first | ((with_reducible show wpAny _ _ (pyIter (Value.ref _)) _ _ _); (k_here; (with_reducible show wpAny _ _ (pyIter _) (fun _ _ => ForAt _ _ _ _ _ _ _ _ _ _ _) _ _); refine halt ?_)) | ((with_reducible show wpAny _ _ (exec (Stmt.For _ _ _ _ _) _) _ _ _); k_here; refine halt ?_) | ((with_reducible show wpAny _ _ (subscriptTail _ _ (Value.ref _) (Value.int _ _)) _ _ _); k_here; refine halt ?_) | ((with_reducible show wpAny _ _ (compareOp CmpOp.NotEq (Value.ref _) (Value.ref _)) _ _ _); (k_here; refine halt ?_)) | ((with_reducible show wpAny _ _ (call (Value.builtin "len") _ _) _ _ _); (k_here; (with_reducible show wpAny _ _ (call (Value.builtin "len") [Value.ref _]) _ _ _); refine halt ?_)) | ((with_reducible show wpAny _ _ (call (Value.ref _) _) _ _ _); k_here; refine halt ?_) | walk1 | row_room_at HE)) | (leave1; walk_say "STEP leave1"; try dsimp only)))
      refine go ?_
      (with_reducible rename Fr _ _ _ _ => F10)
      (with_reducible rename News _ _ _ _ => N10)
      have N11 : News g L _ ((FD, listOf vF.toArray nF) :: (ay, listOf vy.toArray ny) :: (ax, listOf vv.toArray nn) :: (bx, listOf wv.toArray mm) :: (I, oI) :: (T1, _) :: (([(DK, listOf #[.ref b0, .ref b1, .ref b2, .ref b3] 4), (LV, listOf #[.ref a0, .ref a1, .ref a2, .ref a3] nl), (a0, listOf v0.toArray n0), (a1, listOf v1.toArray n1), (a2, listOf v2.toArray n2), (a3, listOf v3.toArray n3), (b0, listOf w0.toArray k0), (b1, listOf w1.toArray k1), (b2, listOf w2.toArray k2), (b3, listOf w3.toArray k3), (107, tabObj ps7)] : List (Addr × Obj)) ++ tabs)) := news_tail (news_tail N10)
      clear N10
      refine KM.len_K (n := f.length) N11 (.head _) hfs (by omega) ?_
      (repeat' (first | (k_unfold; (try dsimp only)) | row_room_at HE | (k_end; wrow_close) | ((with_reducible show wpAny _ _ (pyIter (Value.ref _)) _ _ _); (k_here; (with_reducible show wpAny _ _ (pyIter _) (fun _ _ => ForAt _ _ _ _ _ _ _ _ _ _ _) _ _); refine halt ?_)) | ((with_reducible show wpAny _ _ (exec (Stmt.For _ _ _ _ _) _) _ _ _); k_here; refine halt ?_) | ((with_reducible show wpAny _ _ (subscriptTail _ _ (Value.ref _) (Value.int _ _)) _ _ _); k_here; refine halt ?_) | ((with_reducible show wpAny _ _ (compareOp CmpOp.NotEq (Value.ref _) (Value.ref _)) _ _ _); (k_here; refine halt ?_)) | ((with_reducible show wpAny _ _ (call (Value.builtin "len") _ _) _ _ _); (k_here; (with_reducible show wpAny _ _ (call (Value.builtin "len") [Value.ref _]) _ _ _); refine halt ?_)) | ((with_reducible show wpAny _ _ (call (Value.ref _) _) _ _ _); k_here; refine halt ?_) | row_room_at HB | (dsimp only; (first | ((with_reducible show wpAny _ _ (pyIter (Value.ref _)) _ _ _); (k_here; (with_reducible show wpAny _ _ (pyIter _) (fun _ _ => ForAt _ _ _ _ _ _ _ _ _ _ _) _ _); refine halt ?_)) | ((with_reducible show wpAny _ _ (exec (Stmt.For _ _ _ _ _) _) _ _ _); k_here; refine halt ?_) | ((with_reducible show wpAny _ _ (subscriptTail _ _ (Value.ref _) (Value.int _ _)) _ _ _); k_here; refine halt ?_) | ((with_reducible show wpAny _ _ (compareOp CmpOp.NotEq (Value.ref _) (Value.ref _)) _ _ _); (k_here; refine halt ?_)) | ((with_reducible show wpAny _ _ (call (Value.builtin "len") _ _) _ _ _); (k_here; (with_reducible show wpAny _ _ (call (Value.builtin "len") [Value.ref _]) _ _ _); refine halt ?_)) | ((with_reducible show wpAny _ _ (call (Value.ref _) _) _ _ _); k_here; refine halt ?_) | walk1 | row_room_at HE)) | (leave1; walk_say "STEP leave1"; try dsimp only)))
      refine go ?_
      (with_reducible rename Fr _ _ _ _ => F12)
      (with_reducible rename News _ _ _ _ => N12)
      have N13 : News g L _ ((FD, listOf vF.toArray nF) :: (ay, listOf vy.toArray ny) :: (ax, listOf vv.toArray nn) :: (bx, listOf wv.toArray mm) :: (I, oI) :: (T1, _) :: (([(DK, listOf #[.ref b0, .ref b1, .ref b2, .ref b3] 4), (LV, listOf #[.ref a0, .ref a1, .ref a2, .ref a3] nl), (a0, listOf v0.toArray n0), (a1, listOf v1.toArray n1), (a2, listOf v2.toArray n2), (a3, listOf v3.toArray n3), (b0, listOf w0.toArray k0), (b1, listOf w1.toArray k1), (b2, listOf w2.toArray k2), (b3, listOf w3.toArray k3), (107, tabObj ps7)] : List (Addr × Obj)) ++ tabs)) := N12
      clear N12
      refine' fewest_call (tabs := tabs) ?fa ?fb X' T' ?fc htab hC1 ?fd ?fe ?ff ?_
      (case fa => (first | exact lim2 hdp rfl | exact lim1 hdp rfl | exact lim2 hun rfl | exact lim1 hun rfl | exact lim0 hdp | exact lim0 hun | exact lim3 hdp rfl | exact lim3 hun rfl | ((try dsimp only [arA, Around.deeper]); omega)))
      (case fb => (first | exact lim2 hdp rfl | exact lim1 hdp rfl | exact lim2 hun rfl | exact lim1 hun rfl | exact lim0 hdp | exact lim0 hun | exact lim3 hdp rfl | exact lim3 hun rfl | ((try dsimp only [arA, Around.deeper]); omega)))
      (case fc => exact F12.keep)
      (case fd => exact hn_of N13 fun q hq => .tail _ (.tail _ (.tail _ (.tail _ (.tail _ (.tail _ (List.mem_append_right _ hq)))))))
      (case fe => omega)
      (case ff => omega)
      intro t14 h14 tk14 tabs' htab' kp14 eq14 fr14
      have disB : ∀ q ∈ ([(DK, listOf #[.ref b0, .ref b1, .ref b2, .ref b3] 4), (LV, listOf #[.ref a0, .ref a1, .ref a2, .ref a3] nl), (a0, listOf v0.toArray n0), (a1, listOf v1.toArray n1), (a2, listOf v2.toArray n2), (a3, listOf v3.toArray n3), (b0, listOf w0.toArray k0), (b1, listOf w1.toArray k1), (b2, listOf w2.toArray k2), (b3, listOf w3.toArray k3), (107, tabObj ps7)] : List (Addr × Obj)), ∀ p ∈ tabs, @Ne Nat q.1 p.1 := fun q hq p hp => hdis q.1 (.tail _ (show q.1 ∈ (([(DK, listOf #[.ref b0, .ref b1, .ref b2, .ref b3] 4), (LV, listOf #[.ref a0, .ref a1, .ref a2, .ref a3] nl), (a0, listOf v0.toArray n0), (a1, listOf v1.toArray n1), (a2, listOf v2.toArray n2), (a3, listOf v3.toArray n3), (b0, listOf w0.toArray k0), (b1, listOf w1.toArray k1), (b2, listOf w2.toArray k2), (b3, listOf w3.toArray k3), (107, tabObj ps7)] : List (Addr × Obj))).map (·.1) from List.mem_map_of_mem hq)) p hp
      have notS : ∀ a : Addr, (∀ p ∈ tabs, @Ne Nat a p.1) → a ∉ tabs.map (·.1) := fun a ha hm => by
        (refine hideP ?_; intro PP hPP); (obtain ⟨p, hp, e⟩ := List.mem_map.mp hm) <;> (refine hPP ?_; clear hPP; clear PP)
        exact ha p hp e.symm
      have hIt : ∀ p ∈ tabs, @Ne Nat I p.1 := fun p hp => Ne.symm (off p (.tail _ (List.mem_append_right _ hp)))
      have F14 := fr_kept F12 kp14 (notS L fun p hp => Ne.symm (N13 p (.tail _ (.tail _ (.tail _ (.tail _ (.tail _ (.tail _ (List.mem_append_right _ hp)))))))).2.1) (fun b hb => by
        (refine hideP ?_; intro PP hPP); (obtain ⟨p, hp, rfl⟩ := List.mem_map.mp hb) <;> (refine hPP ?_; clear hPP; clear PP)
        exact (N13 p (.tail _ (.tail _ (.tail _ (.tail _ (.tail _ (.tail _ (List.mem_append_right _ hp)))))))).2.2)
      have N14 : News g L h14 ((FD, listOf vF.toArray nF) :: (ay, listOf vy.toArray ny) :: (ax, listOf vv.toArray nn) :: (bx, listOf wv.toArray mm) :: (I, oI) :: (T1, _) :: (([(DK, listOf #[.ref b0, .ref b1, .ref b2, .ref b3] 4), (LV, listOf #[.ref a0, .ref a1, .ref a2, .ref a3] nl), (a0, listOf v0.toArray n0), (a1, listOf v1.toArray n1), (a2, listOf v2.toArray n2), (a3, listOf v3.toArray n3), (b0, listOf w0.toArray k0), (b1, listOf w1.toArray k1), (b2, listOf w2.toArray k2), (b3, listOf w3.toArray k3), (107, tabObj ps7)] : List (Addr × Obj)) ++ tabs')) := news_step F12 N13 kp14 (fun q hq => by
        rcases List.mem_cons.mp hq with rfl | hq
        · exact .inl ⟨.head _, notS _ fun p hp => Ne.symm (hFtab p hp)⟩
        rcases List.mem_cons.mp hq with rfl | hq
        · exact .inl ⟨.tail _ (.head _), notS _ (disB _ hay)⟩
        rcases List.mem_cons.mp hq with rfl | hq
        · exact .inl ⟨.tail _ (.tail _ (.head _)), notS _ (disB _ hax)⟩
        rcases List.mem_cons.mp hq with rfl | hq
        · exact .inl ⟨.tail _ (.tail _ (.tail _ (.head _))), notS _ (disB _ hbx)⟩
        rcases List.mem_cons.mp hq with rfl | hq
        · exact .inl ⟨.tail _ (.tail _ (.tail _ (.tail _ (.head _)))), notS _ hIt⟩
        rcases List.mem_cons.mp hq with rfl | hq
        · exact .inl ⟨.tail _ (.tail _ (.tail _ (.tail _ (.tail _ (.head _))))), notS _ (hdis _ (.head _))⟩
        replace hq := List.mem_append.mp hq
        rcases hq with hq | hq
        · exact .inl ⟨.tail _ (.tail _ (.tail _ (.tail _ (.tail _ (.tail _ (List.mem_append_left _ hq)))))), notS _ (disB _ hq)⟩
        · refine .inr ⟨(eq14 q hq).1, ?_⟩
          rcases fr14 q hq with e | e
          · (refine hideP ?_; intro PP hPP); (obtain ⟨p, hp, e⟩ := List.mem_map.mp e) <;> (refine hPP ?_; clear hPP; clear PP)
            exact .inl ⟨p.2, e ▸ .tail _ (.tail _ (.tail _ (.tail _ (.tail _ (.tail _ (List.mem_append_right _ hp))))))⟩
          · exact .inr e)
      have hdis' : ∀ a ∈ [T1, DK, LV, a0, a1, a2, a3, b0, b1, b2, b3, 107], ∀ p ∈ tabs', @Ne Nat a p.1 := fun a ha p hp => by
        rcases fr14 p hp with e | e
        · (refine hideP ?_; intro PP hPP); (obtain ⟨p', hp', e'⟩ := List.mem_map.mp e) <;> (refine hPP ?_; clear hPP; clear PP)
          exact fun q => hdis a ha p' hp' (q.trans e'.symm)
        · revert ha
          revert a
          refine' all_cons ?_ (all_cons ?_ (all_cons ?_ (all_cons ?_ (all_cons ?_ (all_cons ?_ (all_cons ?_ (all_cons ?_ (all_cons ?_ (all_cons ?_ (all_cons ?_ (all_cons ?_ (all_nil))))))))))))
          all_goals exact ne_new (N13 (_, _) (by k_mem)).1 e
      have off' : ∀ (o : Obj), ∀ p ∈ (T1, o) :: (([(DK, listOf #[.ref b0, .ref b1, .ref b2, .ref b3] 4), (LV, listOf #[.ref a0, .ref a1, .ref a2, .ref a3] nl), (a0, listOf v0.toArray n0), (a1, listOf v1.toArray n1), (a2, listOf v2.toArray n2), (a3, listOf v3.toArray n3), (b0, listOf w0.toArray k0), (b1, listOf w1.toArray k1), (b2, listOf w2.toArray k2), (b3, listOf w3.toArray k3), (107, tabObj ps7)] : List (Addr × Obj)) ++ tabs'), @Ne Nat p.1 I := fun o p hp => by
        rcases List.mem_cons.mp hp with rfl | hp
        · have h1 := off _ (.head _)
          exact h1
        rcases List.mem_append.mp hp with hp | hp
        · exact off p (.tail _ (List.mem_append_left _ hp))
        · rcases fr14 p hp with e | e
          · (refine hideP ?_; intro PP hPP); (obtain ⟨p', hp', e'⟩ := List.mem_map.mp e) <;> (refine hPP ?_; clear hPP; clear PP)
            exact fun q => hIt p' hp' (q.symm.trans e'.symm)
          · exact Ne.symm (ne_new (N13 (I, oI) (by k_mem)).1 e)
      have htab2 : TabMiss tabs' ∨ TabHit tabs' := by
        rcases htab' with e | e
        · exact .inr e
        · exact .inl e.1
      clear F12 N13 kp14 eq14 fr14 hFtab htab' hdis
      rw [Int.toNat_natCast, g4]
      dsimp only [List.cons_append, List.nil_append] at N14
      (repeat' (first | (k_unfold; (try dsimp only)) | row_room_at HE | (k_end; wrow_close) | ((with_reducible show wpAny _ _ (pyIter (Value.ref _)) _ _ _); (k_here; (with_reducible show wpAny _ _ (pyIter _) (fun _ _ => ForAt _ _ _ _ _ _ _ _ _ _ _) _ _); refine halt ?_)) | ((with_reducible show wpAny _ _ (exec (Stmt.For _ _ _ _ _) _) _ _ _); k_here; refine halt ?_) | ((with_reducible show wpAny _ _ (subscriptTail _ _ (Value.ref _) (Value.int _ _)) _ _ _); k_here; refine halt ?_) | ((with_reducible show wpAny _ _ (compareOp CmpOp.NotEq (Value.ref _) (Value.ref _)) _ _ _); (k_here; refine halt ?_)) | ((with_reducible show wpAny _ _ (call (Value.builtin "len") _ _) _ _ _); (k_here; (with_reducible show wpAny _ _ (call (Value.builtin "len") [Value.ref _]) _ _ _); refine halt ?_)) | ((with_reducible show wpAny _ _ (call (Value.ref _) _) _ _ _); k_here; refine halt ?_) | row_room_at HB | (dsimp only; (first | ((with_reducible show wpAny _ _ (pyIter (Value.ref _)) _ _ _); (k_here; (with_reducible show wpAny _ _ (pyIter _) (fun _ _ => ForAt _ _ _ _ _ _ _ _ _ _ _) _ _); refine halt ?_)) | ((with_reducible show wpAny _ _ (exec (Stmt.For _ _ _ _ _) _) _ _ _); k_here; refine halt ?_) | ((with_reducible show wpAny _ _ (subscriptTail _ _ (Value.ref _) (Value.int _ _)) _ _ _); k_here; refine halt ?_) | ((with_reducible show wpAny _ _ (compareOp CmpOp.NotEq (Value.ref _) (Value.ref _)) _ _ _); (k_here; refine halt ?_)) | ((with_reducible show wpAny _ _ (call (Value.builtin "len") _ _) _ _ _); (k_here; (with_reducible show wpAny _ _ (call (Value.builtin "len") [Value.ref _]) _ _ _); refine halt ?_)) | ((with_reducible show wpAny _ _ (call (Value.ref _) _) _ _ _); k_here; refine halt ?_) | walk1 | row_room_at HE)) | (leave1; walk_say "STEP leave1"; try dsimp only)))
      · exact absurd rfl (by assumption)
      refine go ?_
      (with_reducible rename Fr _ _ _ _ => F15)
      (with_reducible rename News _ _ _ _ => N15)
      refine KM.len_K (n := f.length) N15 (.head _) hfs (by omega) ?_
      (repeat' (first | (k_unfold; (try dsimp only)) | row_room_at HE | (k_end; wrow_close) | ((with_reducible show wpAny _ _ (pyIter (Value.ref _)) _ _ _); (k_here; (with_reducible show wpAny _ _ (pyIter _) (fun _ _ => ForAt _ _ _ _ _ _ _ _ _ _ _) _ _); refine halt ?_)) | ((with_reducible show wpAny _ _ (exec (Stmt.For _ _ _ _ _) _) _ _ _); k_here; refine halt ?_) | ((with_reducible show wpAny _ _ (subscriptTail _ _ (Value.ref _) (Value.int _ _)) _ _ _); k_here; refine halt ?_) | ((with_reducible show wpAny _ _ (compareOp CmpOp.NotEq (Value.ref _) (Value.ref _)) _ _ _); (k_here; refine halt ?_)) | ((with_reducible show wpAny _ _ (call (Value.builtin "len") _ _) _ _ _); (k_here; (with_reducible show wpAny _ _ (call (Value.builtin "len") [Value.ref _]) _ _ _); refine halt ?_)) | ((with_reducible show wpAny _ _ (call (Value.ref _) _) _ _ _); k_here; refine halt ?_) | row_room_at HB | (dsimp only; (first | ((with_reducible show wpAny _ _ (pyIter (Value.ref _)) _ _ _); (k_here; (with_reducible show wpAny _ _ (pyIter _) (fun _ _ => ForAt _ _ _ _ _ _ _ _ _ _ _) _ _); refine halt ?_)) | ((with_reducible show wpAny _ _ (exec (Stmt.For _ _ _ _ _) _) _ _ _); k_here; refine halt ?_) | ((with_reducible show wpAny _ _ (subscriptTail _ _ (Value.ref _) (Value.int _ _)) _ _ _); k_here; refine halt ?_) | ((with_reducible show wpAny _ _ (compareOp CmpOp.NotEq (Value.ref _) (Value.ref _)) _ _ _); (k_here; refine halt ?_)) | ((with_reducible show wpAny _ _ (call (Value.builtin "len") _ _) _ _ _); (k_here; (with_reducible show wpAny _ _ (call (Value.builtin "len") [Value.ref _]) _ _ _); refine halt ?_)) | ((with_reducible show wpAny _ _ (call (Value.ref _) _) _ _ _); k_here; refine halt ?_) | walk1 | row_room_at HE)) | (leave1; walk_say "STEP leave1"; try dsimp only)))
      refine go ?_
      (with_reducible rename Fr _ _ _ _ => F16)
      (with_reducible rename News _ _ _ _ => N16)
      refine' tail_K (its := #[.ref a0, .ref a1, .ref a2, .ref a3]) (n := nl) (x := .ref ax) ?g4N ?g4m ?g4a ?g4b ?g4c ?_
      (case g4N => exact N16)
      (case g4m => k_mem)
      (case g4a => omega)
      (case g4b => omega)
      (case g4c => rw [show (((j + 1 : Nat) : Int) - 1).toNat = j by omega]; exact hga)
      (repeat' (first | (k_unfold; (try dsimp only)) | row_room_at HE | (k_end; wrow_close) | ((with_reducible show wpAny _ _ (pyIter (Value.ref _)) _ _ _); (k_here; (with_reducible show wpAny _ _ (pyIter _) (fun _ _ => ForAt _ _ _ _ _ _ _ _ _ _ _) _ _); refine halt ?_)) | ((with_reducible show wpAny _ _ (exec (Stmt.For _ _ _ _ _) _) _ _ _); k_here; refine halt ?_) | ((with_reducible show wpAny _ _ (subscriptTail _ _ (Value.ref _) (Value.int _ _)) _ _ _); k_here; refine halt ?_) | ((with_reducible show wpAny _ _ (compareOp CmpOp.NotEq (Value.ref _) (Value.ref _)) _ _ _); (k_here; refine halt ?_)) | ((with_reducible show wpAny _ _ (call (Value.builtin "len") _ _) _ _ _); (k_here; (with_reducible show wpAny _ _ (call (Value.builtin "len") [Value.ref _]) _ _ _); refine halt ?_)) | ((with_reducible show wpAny _ _ (call (Value.ref _) _) _ _ _); k_here; refine halt ?_) | row_room_at HB | (dsimp only; (first | ((with_reducible show wpAny _ _ (pyIter (Value.ref _)) _ _ _); (k_here; (with_reducible show wpAny _ _ (pyIter _) (fun _ _ => ForAt _ _ _ _ _ _ _ _ _ _ _) _ _); refine halt ?_)) | ((with_reducible show wpAny _ _ (exec (Stmt.For _ _ _ _ _) _) _ _ _); k_here; refine halt ?_) | ((with_reducible show wpAny _ _ (subscriptTail _ _ (Value.ref _) (Value.int _ _)) _ _ _); k_here; refine halt ?_) | ((with_reducible show wpAny _ _ (compareOp CmpOp.NotEq (Value.ref _) (Value.ref _)) _ _ _); (k_here; refine halt ?_)) | ((with_reducible show wpAny _ _ (call (Value.builtin "len") _ _) _ _ _); (k_here; (with_reducible show wpAny _ _ (call (Value.builtin "len") [Value.ref _]) _ _ _); refine halt ?_)) | ((with_reducible show wpAny _ _ (call (Value.ref _) _) _ _ _); k_here; refine halt ?_) | walk1 | row_room_at HE)) | (leave1; walk_say "STEP leave1"; try dsimp only)))
      refine go ?_
      (with_reducible rename Fr _ _ _ _ => F17)
      (with_reducible rename News _ _ _ _ => N17)
      refine' tail_K (its := #[.ref b0, .ref b1, .ref b2, .ref b3]) (n := 4) (x := .ref bx) ?g5N ?g5m ?g5a ?g5b ?g5c ?_
      (case g5N => exact N17)
      (case g5m => k_mem)
      (case g5a => omega)
      (case g5b => omega)
      (case g5c => rw [Int.toNat_natCast]; exact hgb)
      (repeat' (first | (k_unfold; (try dsimp only)) | row_room_at HE | (k_end; wrow_close) | ((with_reducible show wpAny _ _ (pyIter (Value.ref _)) _ _ _); (k_here; (with_reducible show wpAny _ _ (pyIter _) (fun _ _ => ForAt _ _ _ _ _ _ _ _ _ _ _) _ _); refine halt ?_)) | ((with_reducible show wpAny _ _ (exec (Stmt.For _ _ _ _ _) _) _ _ _); k_here; refine halt ?_) | ((with_reducible show wpAny _ _ (subscriptTail _ _ (Value.ref _) (Value.int _ _)) _ _ _); k_here; refine halt ?_) | ((with_reducible show wpAny _ _ (compareOp CmpOp.NotEq (Value.ref _) (Value.ref _)) _ _ _); (k_here; refine halt ?_)) | ((with_reducible show wpAny _ _ (call (Value.builtin "len") _ _) _ _ _); (k_here; (with_reducible show wpAny _ _ (call (Value.builtin "len") [Value.ref _]) _ _ _); refine halt ?_)) | ((with_reducible show wpAny _ _ (call (Value.ref _) _) _ _ _); k_here; refine halt ?_) | row_room_at HB | (dsimp only; (first | ((with_reducible show wpAny _ _ (pyIter (Value.ref _)) _ _ _); (k_here; (with_reducible show wpAny _ _ (pyIter _) (fun _ _ => ForAt _ _ _ _ _ _ _ _ _ _ _) _ _); refine halt ?_)) | ((with_reducible show wpAny _ _ (exec (Stmt.For _ _ _ _ _) _) _ _ _); k_here; refine halt ?_) | ((with_reducible show wpAny _ _ (subscriptTail _ _ (Value.ref _) (Value.int _ _)) _ _ _); k_here; refine halt ?_) | ((with_reducible show wpAny _ _ (compareOp CmpOp.NotEq (Value.ref _) (Value.ref _)) _ _ _); (k_here; refine halt ?_)) | ((with_reducible show wpAny _ _ (call (Value.builtin "len") _ _) _ _ _); (k_here; (with_reducible show wpAny _ _ (call (Value.builtin "len") [Value.ref _]) _ _ _); refine halt ?_)) | ((with_reducible show wpAny _ _ (call (Value.ref _) _) _ _ _); k_here; refine halt ?_) | walk1 | row_room_at HE)) | (leave1; walk_say "STEP leave1"; try dsimp only)))
      refine go ?_
      (with_reducible rename Fr _ _ _ _ => F18)
      (with_reducible rename News _ _ _ _ => N18)
      refine' places_call (fam := keptN row (j + 1)) (lev := (levN j).map fun n : Nat => (n : Int)) ?ha ?hb X' T' ?hc ?hd ?he hvv ?hf ?hg hwv (hn_of N18 ?hh) ?_
      (case ha => (first | exact lim2 hdp rfl | exact lim1 hdp rfl | exact lim2 hun rfl | exact lim1 hun rfl | exact lim0 hdp | exact lim0 hun | exact lim3 hdp rfl | exact lim3 hun rfl | ((try dsimp only [arA, Around.deeper]); omega)))
      (case hb => (first | exact lim2 hdp rfl | exact lim1 hdp rfl | exact lim2 hun rfl | exact lim1 hun rfl | exact lim0 hdp | exact lim0 hun | exact lim3 hdp rfl | exact lim3 hun rfl | ((try dsimp only [arA, Around.deeper]); omega)))
      (case hc => exact F18.keep)
      (case hd => exact fun m hm => (levN_mem (List.mem_filter.mp hm).1).1)
      (case he => exact hkl)
      (case hf => rw [List.length_map]; exact Nat.lt_of_le_of_lt (hlv _) (by decide))
      (case hg => exact sorted_map (levN_sorted j))
      (case hh =>
        intro q hq
        revert hq
        revert q
        refine' all_cons ?_ (all_cons ?_ (all_nil))
        all_goals k_mem)
      intro h19 tk19 GD vG nG hvG kp19 eG nG0
      have F19 := fr_kept0 F18 kp19
      have N19 := news_new (led := [(GD, listOf vG.toArray nG)]) F18 N18 kp19 (fun q hq => by simp) (fun q hq => by rw [List.mem_singleton.mp hq]; exact ⟨eG, nG0⟩)
      clear F18 N18 kp19 eG nG0
      dsimp only [List.cons_append, List.nil_append] at N19
      rw [show placesF ((levN j).map fun n : Nat => (n : Int)) (keptN row (j + 1)) = leastN row (j + 1) from rfl] at hvG
      have hgs : vG.toArray.size = (leastN row (j + 1)).length := by rw [List.size_toArray, hvG.length]
      (repeat' (first | (k_unfold; (try dsimp only)) | row_room_at HE | (k_end; wrow_close) | ((with_reducible show wpAny _ _ (pyIter (Value.ref _)) _ _ _); (k_here; (with_reducible show wpAny _ _ (pyIter _) (fun _ _ => ForAt _ _ _ _ _ _ _ _ _ _ _) _ _); refine halt ?_)) | ((with_reducible show wpAny _ _ (exec (Stmt.For _ _ _ _ _) _) _ _ _); k_here; refine halt ?_) | ((with_reducible show wpAny _ _ (subscriptTail _ _ (Value.ref _) (Value.int _ _)) _ _ _); k_here; refine halt ?_) | ((with_reducible show wpAny _ _ (compareOp CmpOp.NotEq (Value.ref _) (Value.ref _)) _ _ _); (k_here; refine halt ?_)) | ((with_reducible show wpAny _ _ (call (Value.builtin "len") _ _) _ _ _); (k_here; (with_reducible show wpAny _ _ (call (Value.builtin "len") [Value.ref _]) _ _ _); refine halt ?_)) | ((with_reducible show wpAny _ _ (call (Value.ref _) _) _ _ _); k_here; refine halt ?_) | row_room_at HB | (dsimp only; (first | ((with_reducible show wpAny _ _ (pyIter (Value.ref _)) _ _ _); (k_here; (with_reducible show wpAny _ _ (pyIter _) (fun _ _ => ForAt _ _ _ _ _ _ _ _ _ _ _) _ _); refine halt ?_)) | ((with_reducible show wpAny _ _ (exec (Stmt.For _ _ _ _ _) _) _ _ _); k_here; refine halt ?_) | ((with_reducible show wpAny _ _ (subscriptTail _ _ (Value.ref _) (Value.int _ _)) _ _ _); k_here; refine halt ?_) | ((with_reducible show wpAny _ _ (compareOp CmpOp.NotEq (Value.ref _) (Value.ref _)) _ _ _); (k_here; refine halt ?_)) | ((with_reducible show wpAny _ _ (call (Value.builtin "len") _ _) _ _ _); (k_here; (with_reducible show wpAny _ _ (call (Value.builtin "len") [Value.ref _]) _ _ _); refine halt ?_)) | ((with_reducible show wpAny _ _ (call (Value.ref _) _) _ _ _); k_here; refine halt ?_) | walk1 | row_room_at HE)) | (leave1; walk_say "STEP leave1"; try dsimp only)))
      refine go ?_
      (with_reducible rename Fr _ _ _ _ => F20)
      (with_reducible rename News _ _ _ _ => N20)
      refine KM.len_K (n := (leastN row (j + 1)).length) N20 (.head _) hgs (by omega) ?_
      (repeat' (first | (k_unfold; (try dsimp only)) | row_room_at HE | (k_end; wrow_close) | ((with_reducible show wpAny _ _ (pyIter (Value.ref _)) _ _ _); (k_here; (with_reducible show wpAny _ _ (pyIter _) (fun _ _ => ForAt _ _ _ _ _ _ _ _ _ _ _) _ _); refine halt ?_)) | ((with_reducible show wpAny _ _ (exec (Stmt.For _ _ _ _ _) _) _ _ _); k_here; refine halt ?_) | ((with_reducible show wpAny _ _ (subscriptTail _ _ (Value.ref _) (Value.int _ _)) _ _ _); k_here; refine halt ?_) | ((with_reducible show wpAny _ _ (compareOp CmpOp.NotEq (Value.ref _) (Value.ref _)) _ _ _); (k_here; refine halt ?_)) | ((with_reducible show wpAny _ _ (call (Value.builtin "len") _ _) _ _ _); (k_here; (with_reducible show wpAny _ _ (call (Value.builtin "len") [Value.ref _]) _ _ _); refine halt ?_)) | ((with_reducible show wpAny _ _ (call (Value.ref _) _) _ _ _); k_here; refine halt ?_) | row_room_at HB | (dsimp only; (first | ((with_reducible show wpAny _ _ (pyIter (Value.ref _)) _ _ _); (k_here; (with_reducible show wpAny _ _ (pyIter _) (fun _ _ => ForAt _ _ _ _ _ _ _ _ _ _ _) _ _); refine halt ?_)) | ((with_reducible show wpAny _ _ (exec (Stmt.For _ _ _ _ _) _) _ _ _); k_here; refine halt ?_) | ((with_reducible show wpAny _ _ (subscriptTail _ _ (Value.ref _) (Value.int _ _)) _ _ _); k_here; refine halt ?_) | ((with_reducible show wpAny _ _ (compareOp CmpOp.NotEq (Value.ref _) (Value.ref _)) _ _ _); (k_here; refine halt ?_)) | ((with_reducible show wpAny _ _ (call (Value.builtin "len") _ _) _ _ _); (k_here; (with_reducible show wpAny _ _ (call (Value.builtin "len") [Value.ref _]) _ _ _); refine halt ?_)) | ((with_reducible show wpAny _ _ (call (Value.ref _) _) _ _ _); k_here; refine halt ?_) | walk1 | row_room_at HE)) | (leave1; walk_say "STEP leave1"; try dsimp only)))
      (with_reducible rename Fr _ _ _ _ => F21)
      (with_reducible rename News _ _ _ _ => N21)
      exact fEnd F21 (news_tail (news_tail (news_tail (news_tail (news_tail N21))))) (fun _ hp => hp) (off' _) ⟨tabs', htab2, hdis', ⟨rfl, rfl, trivial⟩, rfl⟩
    · intro m news h tk jz4
      (refine hideP ?_; intro PP hPP); (obtain ⟨tabs, htab, hdis, e1, rfl⟩ := jz4) <;> (refine hPP ?_; clear hPP; clear PP)
      intro F N
      replace F := fr_knows e1 F
      clear e1 F1 N1
      (try dsimp only)
      (repeat' (first | (k_unfold; (try dsimp only)) | row_room_at HE | (k_end; wrow_close) | ((with_reducible show wpAny _ _ (pyIter (Value.ref _)) _ _ _); (k_here; (with_reducible show wpAny _ _ (pyIter _) (fun _ _ => ForAt _ _ _ _ _ _ _ _ _ _ _) _ _); refine halt ?_)) | ((with_reducible show wpAny _ _ (exec (Stmt.For _ _ _ _ _) _) _ _ _); k_here; refine halt ?_) | ((with_reducible show wpAny _ _ (subscriptTail _ _ (Value.ref _) (Value.int _ _)) _ _ _); k_here; refine halt ?_) | ((with_reducible show wpAny _ _ (compareOp CmpOp.NotEq (Value.ref _) (Value.ref _)) _ _ _); (k_here; refine halt ?_)) | ((with_reducible show wpAny _ _ (call (Value.builtin "len") _ _) _ _ _); (k_here; (with_reducible show wpAny _ _ (call (Value.builtin "len") [Value.ref _]) _ _ _); refine halt ?_)) | ((with_reducible show wpAny _ _ (call (Value.ref _) _) _ _ _); k_here; refine halt ?_) | row_room_at HB | (dsimp only; (first | ((with_reducible show wpAny _ _ (pyIter (Value.ref _)) _ _ _); (k_here; (with_reducible show wpAny _ _ (pyIter _) (fun _ _ => ForAt _ _ _ _ _ _ _ _ _ _ _) _ _); refine halt ?_)) | ((with_reducible show wpAny _ _ (exec (Stmt.For _ _ _ _ _) _) _ _ _); k_here; refine halt ?_) | ((with_reducible show wpAny _ _ (subscriptTail _ _ (Value.ref _) (Value.int _ _)) _ _ _); k_here; refine halt ?_) | ((with_reducible show wpAny _ _ (compareOp CmpOp.NotEq (Value.ref _) (Value.ref _)) _ _ _); (k_here; refine halt ?_)) | ((with_reducible show wpAny _ _ (call (Value.builtin "len") _ _) _ _ _); (k_here; (with_reducible show wpAny _ _ (call (Value.builtin "len") [Value.ref _]) _ _ _); refine halt ?_)) | ((with_reducible show wpAny _ _ (call (Value.ref _) _) _ _ _); k_here; refine halt ?_) | walk1 | row_room_at HE)) | (leave1; walk_say "STEP leave1"; try dsimp only)))
      (try dsimp only)
      (with_reducible rename Fr _ _ _ _ => F9)
      (with_reducible rename News _ _ _ _ => N9)
      have g159 : ∃ ps, (159, tabObj ps) ∈ tabs := by
        rcases htab with e | ⟨c', oc, vs', t', e, _⟩
        · exact ⟨#[], by rw [show tabs = [(159, tabObj #[])] from e]; exact List.Mem.head _⟩
        · exact ⟨#[rawInt 204, rawInt 55, .ref c'], by rw [e]; exact List.Mem.head _⟩
      obtain ⟨ps9, hps9⟩ := g159
      exact ret _ _ F9.keep (GrownAt.of N9 (.tail _ (List.mem_append_right (([(DK, listOf #[.ref b0, .ref b1, .ref b2, .ref b3] 4), (LV, listOf #[.ref a0, .ref a1, .ref a2, .ref a3] nl), (a0, listOf v0.toArray n0), (a1, listOf v1.toArray n1), (a2, listOf v2.toArray n2), (a3, listOf v3.toArray n3), (b0, listOf w0.toArray k0), (b1, listOf w1.toArray k1), (b2, listOf w2.toArray k2), (b3, listOf w3.toArray k3), (107, tabObj ps7)] : List (Addr × Obj))) hps9))) (GrownAt.of N9 (.tail _ (List.mem_append_left tabs (show (107, tabObj ps7) ∈ ([(DK, listOf #[.ref b0, .ref b1, .ref b2, .ref b3] 4), (LV, listOf #[.ref a0, .ref a1, .ref a2, .ref a3] nl), (a0, listOf v0.toArray n0), (a1, listOf v1.toArray n1), (a2, listOf v2.toArray n2), (a3, listOf v3.toArray n3), (b0, listOf w0.toArray k0), (b1, listOf w1.toArray k1), (b2, listOf w2.toArray k2), (b3, listOf w3.toArray k3), (107, tabObj ps7)] : List (Addr × Obj)) by k_mem))))
end

/-! T_plain -/
theorem flushT_plain : True ∧ True := by first | (row_walk; done) | (walk1; done) | exact ⟨trivial, trivial⟩
theorem kept_lies {ms : List Nat} (k : Nat) : (levN k).filter (liesN ms) = keptN (downRow ms) k := by
  unfold keptN
  refine List.filter_congr fun m hm => ?_
  have h32 := (levN_mem hm).1
  have e : (downRow ms).contains m = InFam ms m := by
    rw [Bool.eq_iff_iff, List.contains_iff_mem]
    unfold downRow
    rw [List.mem_filter, List.mem_range]
    exact ⟨fun h => h.2, fun h => ⟨h32, h⟩⟩
  rw [e]
  unfold liesN InFam
  congr 1
  funext one
  rw [Nat.and_comm]
noncomputable def subsOf : List Nat → List (List Nat)
  | [] => [[]]
  | a :: r => subsOf r ++ (subsOf r).map (a :: ·)
theorem filter_mem_subs (f : Nat → Bool) : ∀ l : List Nat, l.filter f ∈ subsOf l
  | [] => .head _
  | a :: r => by
    have ih := filter_mem_subs f r
    rw [List.filter_cons, subsOf]
    split
    · exact List.mem_append_right _ (List.mem_map_of_mem ih)
    · exact List.mem_append_left _ ih
noncomputable def chkA (k c : Nat) : Bool := decide ((firstN k c).length ≤ 10) && (firstN k c).isPerm ((List.range (firstN k c).length).map fun n : Nat => (n : Int)) && (fewF k (c : Int) == ((firstN k c).length : Int))
theorem chkA_all : ∀ k : Nat, k < 4 → 1 ≤ k → ∀ c : Nat, c < (levN k).length + 1 → chkA k c = true := by decide +kernel
theorem lev_len : ∀ k : Nat, k < 4 → (levN k).length ≤ 10 := by decide +kernel
noncomputable def chkB (k : Nat) (S : List Nat) : Bool := decide ((firstN k S.length).length ≤ (placesF ((levN (k - 1)).map fun n : Nat => (n : Int)) S).length)
theorem chkB_1 : (subsOf (levN 1)).all (chkB 1) = true := by decide +kernel
theorem chkB_2 : (subsOf (levN 2)).all (chkB 2) = true := by decide +kernel
theorem chkB_3 : (subsOf (levN 3)).all (chkB 3) = true := by decide +kernel
theorem plain_k (row : List Nat) (k : Nat) (h1 : 1 ≤ k) (h3 : k ≤ 3) : (keptN row k).length ≤ 10 ∧ (firstN k (keptN row k).length).length ≤ 10 ∧ (firstN k (keptN row k).length).Perm ((List.range (firstN k (keptN row k).length).length).map fun n : Nat => (n : Int)) ∧
    fewF k ((keptN row k).length : Int) = ((firstN k (keptN row k).length).length : Int) ∧ (firstN k (keptN row k).length).length ≤ (leastN row k).length ∧ (leastN row k).length ≤ 160 := by
  have hl : (keptN row k).length ≤ (levN k).length := List.length_filter_le _ _
  have hl2 := lev_len k (by omega)
  have hA := chkA_all k (by omega) h1 (keptN row k).length (by omega)
  unfold chkA at hA
  rw [Bool.and_eq_true, Bool.and_eq_true, decide_eq_true_eq, List.isPerm_iff, beq_iff_eq] at hA
  refine ⟨by omega, hA.1.1, hA.1.2, hA.2, ?_, ?_⟩
  · have hm : keptN row k ∈ subsOf (levN k) := filter_mem_subs _ _
    have hB : (subsOf (levN k)).all (chkB k) = true := by
      obtain rfl | rfl | rfl : k = 1 ∨ k = 2 ∨ k = 3 := by omega
      · exact chkB_1
      · exact chkB_2
      · exact chkB_3
    have := List.all_eq_true.mp hB _ hm
    unfold chkB at this
    rw [decide_eq_true_eq] at this
    exact this
  · unfold leastN
    refine Nat.le_trans (placesF_len _ _) ?_
    omega

/-! T_plain2 -/
theorem flushT_plain2 : True ∧ True := by first | (row_walk; done) | (walk1; done) | exact ⟨trivial, trivial⟩
noncomputable def sg1 (c : Nat) : Str := ⟨#[c]⟩
theorem signs_app (x y : Str) : signs (x ++ y) = signs x ++ signs y := by
  unfold signs
  rw [PySem.Str.cps_append, Array.toList_append, List.map_append]
theorem signs_of {x : Str} {cs : List Nat} (h : x.cps.toList = cs) : signs x = cs.map sg1 := by unfold signs; rw [h]; rfl
theorem app_sg1 (t : Str) (c : Nat) (w : List Nat) : t ++ sg1 c ++ (⟨w.toArray⟩ : Str) = t ++ (⟨(c :: w).toArray⟩ : Str) := by
  refine PySem.Str.ext' ?_
  simp only [PySem.Str.cps_append, sg1]
  apply Array.toList_inj.mp
  simp
theorem app_nil (t : Str) : t ++ (⟨#[]⟩ : Str) = t := by
  refine PySem.Str.ext' ?_
  simp only [PySem.Str.cps_append]
  apply Array.toList_inj.mp
  simp
theorem nil_app (x : Str) : Str.ofString "" ++ x = x := by
  refine PySem.Str.ext' ?_
  rw [PySem.Str.cps_append, show (Str.ofString "").cps = #[] by decide +kernel]
  apply Array.toList_inj.mp
  simp
theorem sg1_eq (c d : Nat) : (sg1 c == sg1 d) = (c == d) := by
  rw [Bool.eq_iff_iff, beq_iff_eq, beq_iff_eq]
  unfold sg1
  constructor
  · intro e
    have := congrArg (fun s : Str => s.cps.toList) e
    simpa using this
  · rintro rfl; rfl
theorem sg_quote : Str.ofString "\"" = sg1 34 := by decide +kernel
theorem sg_back : Str.ofString "\\" = sg1 92 := by decide +kernel
theorem sg_nl : Str.ofString "\n" = sg1 10 := by decide +kernel
theorem quot_run {rest : List Str} : ∀ (w : List Nat) (t : Str), (∀ c ∈ w, c ≠ 34 ∧ c ≠ 92) → quotF (w.map sg1 ++ sg1 34 :: rest) t = some (t ++ (⟨w.toArray⟩ : Str), rest)
  | [], t, _ => by
    rw [List.map_nil, List.nil_append, quot_q (by rw [sg_quote]; exact beq_self_eq_true _)]
    rw [show ((⟨([] : List Nat).toArray⟩ : Str)) = ⟨#[]⟩ from rfl, app_nil]
  | c :: w, t, h => by
    have hc := h c (.head _)
    rw [List.map_cons, List.cons_append, quot_o (by rw [sg_quote, sg1_eq]; exact beq_false_of_ne hc.1) (by rw [sg_back, sg1_eq]; exact beq_false_of_ne hc.2), quot_run w _ fun x hx => h x (.tail _ hx), app_sg1]
theorem wsF_back : wsF (sg1 92) = false := by decide +kernel
theorem wsF_nl : wsF (sg1 10) = true := by decide +kernel
theorem wsF_quote : wsF (sg1 34) = false := by decide +kernel
theorem bare_run {rest : List Str} : ∀ (w : List Nat) (t : Str), bareF ((w.flatMap fun c => [92, c]).map sg1 ++ sg1 10 :: rest) t = some (t ++ (⟨w.toArray⟩ : Str), rest)
  | [], t => by
    rw [List.flatMap_nil, List.map_nil, List.nil_append, bare_ws wsF_nl]
    rw [show ((⟨([] : List Nat).toArray⟩ : Str)) = ⟨#[]⟩ from rfl, app_nil]
  | c :: w, t => by
    rw [List.flatMap_cons, List.cons_append, List.cons_append, List.nil_append, List.map_cons, List.map_cons, List.cons_append, List.cons_append, bare_b wsF_back (by rw [sg_back, sg1_eq]; rfl)]
    show bareF _ (t ++ sg1 c) = _
    rw [bare_run w, app_sg1]
theorem skip_quot {w : List Nat} {rest : List Str} (h : ∀ c ∈ w, c ≠ 34 ∧ c ≠ 92) : skipF (sg1 34 :: (w.map sg1 ++ sg1 34 :: rest)) = some ((⟨w.toArray⟩ : Str), rest) := by
  rw [skip_q wsF_quote (by rw [sg_quote, sg1_eq]; rfl), quot_run w _ h, nil_app]
theorem skip_bare {c : Nat} {w : List Nat} {rest : List Str} : skipF (((c :: w).flatMap fun c => [92, c]).map sg1 ++ sg1 10 :: rest) = some ((⟨(c :: w).toArray⟩ : Str), rest) := by
  rw [List.flatMap_cons, List.cons_append, List.cons_append, List.nil_append, List.map_cons, List.map_cons, List.cons_append, List.cons_append, skip_b wsF_back (by rw [sg_quote, sg1_eq]; rfl) (by rw [sg_back, sg1_eq]; rfl)]
  show bareF _ (Str.ofString "" ++ sg1 c) = _
  rw [bare_run w, app_sg1, nil_app]
noncomputable def wordL (d : Nat) : List Nat := List.replicate (d / 125 % 3) 64 ++ [wordC d]
theorem wordN_cps (d : Nat) : (wordN d).cps.toList = wordL d := by
  unfold wordN wordL
  rw [PySem.Str.cps_append, Array.toList_append, (atS_cps (d / 125 % 3) (by omega)).1]
theorem wordN_eq (d : Nat) : (⟨(wordL d).toArray⟩ : Str) = wordN d := by
  refine PySem.Str.ext' ?_
  apply Array.toList_inj.mp
  rw [wordN_cps]
theorem wordC_facts (d : Nat) : wordC d < 192 ∧ wordC d % 128 < 64 ∧ wordC d % 64 = maskN d ∧ wordC d ≠ 34 ∧ wordC d ≠ 92 := by
  have := maskN_lt d
  unfold wordC
  omega
theorem wordL_ne (d : Nat) : ∀ c ∈ wordL d, c ≠ 34 ∧ c ≠ 92 := fun c hc => by
  unfold wordL at hc
  rcases List.mem_append.mp hc with e | e
  · rw [(List.mem_replicate.mp e).2]; decide
  · rw [List.mem_singleton.mp e]; exact (wordC_facts d).2.2.2
theorem isWord (d : Nat) (t : Tok) : IsWord (.str (wordN d) t) (maskN d) := ⟨_, t, d / 125 % 3, wordC d, rfl, wordN_cps d, by omega, (wordC_facts d).1, (wordC_facts d).2.1, (wordC_facts d).2.2.1⟩
theorem words_of {vs : List Value} : ∀ {ds : List Nat}, StrsAre vs (ds.map wordN) → Words vs (ds.map maskN) := by
  intro ds
  induction ds generalizing vs with
  | nil => intro h; cases h; exact .nil
  | cons d r ih =>
    intro h
    cases h with
    | cons a t h => exact .cons (isWord d t) (ih h)
theorem word_ok (d : Nat) : PyData.strOk (wordN d) = true := by
  unfold PyData.strOk
  rw [← Array.all_toList, wordN_cps, List.all_eq_true]
  intro c hc
  unfold wordL at hc
  rw [decide_eq_true_eq]
  rcases List.mem_append.mp hc with e | e
  · rw [(List.mem_replicate.mp e).2]; decide
  · rw [List.mem_singleton.mp e]; have := (wordC_facts d).1; omega
theorem signs_one (x : Str) : ∀ y ∈ signs x, y.length = 1 := fun y hy => by
  unfold signs at hy
  (refine hideP ?_; intro PP hPP); (obtain ⟨c, _, rfl⟩ := List.mem_map.mp hy) <;> (refine hPP ?_; clear hPP; clear PP)
  rfl
noncomputable def quotL (d : Nat) (rest : List Str) : List Str := sg1 34 :: ((wordL d).map sg1 ++ sg1 34 :: rest)
noncomputable def bareL (d : Nat) (rest : List Str) : List Str := ((wordL d).flatMap fun c => [92, c]).map sg1 ++ sg1 10 :: rest
theorem skip_quotL (d : Nat) (rest : List Str) : skipF (quotL d rest) = some (wordN d, rest) := by
  unfold quotL
  rw [skip_quot (wordL_ne d), wordN_eq]
theorem skip_bareL (d : Nat) (rest : List Str) : skipF (bareL d rest) = some (wordN d, rest) := by
  obtain ⟨c, r, e⟩ : ∃ c r, wordL d = c :: r := by
    cases h : wordL d with
    | nil => exact absurd (congrArg List.length h) (by simp [wordL])
    | cons c r => exact ⟨c, r, rfl⟩
  unfold bareL
  rw [e, skip_bare, ← e, wordN_eq]
theorem skip_nl (r : List Str) : skipF (sg1 10 :: r) = skipF r := skip_ws wsF_nl
theorem signs_writ (d0 d1 : Nat) : signs (writF (wordN d0) (wordN d1)) = quotL d0 (sg1 10 :: bareL d1 []) := by
  unfold writF quotL bareL
  simp only [signs_app]
  rw [signs_of (wordN_cps d0), signs_of (x := escF (wordN d1)) (cs := (wordL d1).flatMap fun c => [92, c]) (by rw [esc_cps, wordN_cps])]
  rw [show signs (Str.ofString "\"") = [sg1 34] by decide +kernel, show signs (Str.ofString "\"\n") = [sg1 34, sg1 10] by decide +kernel, show signs (Str.ofString "\n") = [sg1 10] by decide +kernel]
  simp only [List.append_assoc, List.cons_append, List.nil_append]
theorem signs_writ3 (d0 d1 d2 : Nat) : signs (writF3 (wordN d0) (wordN d1) (wordN d2)) = quotL d0 (sg1 10 :: bareL d1 (quotL d2 [sg1 10])) := by
  unfold writF3
  simp only [signs_app]
  rw [signs_writ, signs_of (wordN_cps d2)]
  rw [show signs (Str.ofString "\"") = [sg1 34] by decide +kernel, show signs (Str.ofString "\"\n") = [sg1 34, sg1 10] by decide +kernel]
  unfold quotL bareL
  simp only [List.append_assoc, List.cons_append, List.nil_append]

/-! T_cc -/
theorem flushT_cc : True ∧ True := by first | (row_walk; done) | (walk1; done) | exact ⟨trivial, trivial⟩
open LCg in
section
variable {prog : Program} {w : World} {A : Around} {E : Value → Shared → Prop} {s : Shared} {h₀ : Heap} {L : Addr} {m : Str → Option Value} {env : Env}
theorem newEnvC1 {scope : Scope} {globals : Addr} {cl : List (Str × Addr)} {qual : Str} {outer : Env} {x : Str} {Q : Env → Shared → Prop}
    (hp : ∀ h : Heap, pushCells h scope.names = h.push { cls := .type "cell", data := .cell none }) (hcf : ∀ n acc, cellsFrom n scope.names acc = (x, n) :: acc)
    (hQ : ∀ h', h' = (s.heap.push { cls := .type "dict", data := .dict #[] }).push { cls := .type "cell", data := .cell none } →
      Q { scope, locals := s.heap.objs.size, globals, cells := (x, s.heap.objs.size + 1) :: cl, qual, func := none, code := outer.code, frame := outer.frame, builtins := outer.builtins } { s with heap := h' }) :
    wpAny (model prog w) A (newFunctionEnv scope globals cl [] qual none .none (some outer)) Q E s := by
  simp only [newFunctionEnv, Option.isSome_some, if_true]
  refine wpAny_bind (wpAny_alloc ?_)
  refine wpAny_bind (wpAny_layCells _ (fun name kind cells => by cases hkc : kind == NameKind.cell <;> simp [hkc]) _ _ _ _ ?_)
  rw [hcf]
  refine wpAny_bind ?_
  rw [List.forIn_nil]
  refine wpAny_pure (wpAny_pure ?_)
  have e : ({ s with heap := s.heap.push { cls := .type "dict", data := .dict #[] } } : Shared).heap.objs.size = s.heap.objs.size + 1 := Heap.size_push ..
  rw [e]
  exact hQ _ (hp _)
theorem block_TC {ct elt iter : PySem.Expr} {x : Str} {px : Pos} {scope : Scope} {cl : List (Str × Addr)} {pos : Pos} {s₂ : Shared} {I : Addr} {n : Nat} {P : Nat → Value → Prop} {St : Nat → Heap → Prop} {news : List (Addr × Obj)} {RR : Value → Addr → Result → Shared → Prop}
    (W : Walks prog w A I [I] [I] n P St) (hsz : n ≤ sizeLine) (hIo : ∀ i h, St i h → ∃ o, h.get? I = some o) (hSt : ∀ i h h' o, St i h → h.get? I = some o → h'.get? I = some o → St i h')
    (hp : ∀ h : Heap, pushCells h scope.names = h.push { cls := .type "cell", data := .cell none }) (hcf : ∀ n acc, cellsFrom n scope.names acc = (x, n) :: acc)
    (hkind : scope.kind = .function) (hx : ∀ cl C, (compEnvC scope cl C env).kindOf x = some .cell) (hst : St 0 s₂.heap) (F : Fr h₀ L s₂.heap m) (N : News h₀ L s₂.heap news) (hIL : L ≠ I) (hI₀ : h₀.get? I = none) (off : ∀ p ∈ news, p.1 ≠ I)
    (J : Nat → List Value → Prop) (j0 : J 0 [])
    (turn : ∀ i ys v oI C oC K oK D h tk (E' : Value → Shared → Prop), i < n → J i ys → P i v → oK.data = .cell (some v) → Fr h₀ L h m → News h₀ L h ((I, oI) :: (C, oC) :: (K, oK) :: (D, lst ys) :: news) →
      wpAny (model prog w) A (isTrue ct (compEnvC scope ((x, K) :: cl) C env) (eval ct (compEnvC scope ((x, K) :: cl) C env))) (fun ok s' => if ok = true then
        wpAny (model prog w) A (eval elt (compEnvC scope ((x, K) :: cl) C env)) (fun y s'' => ∃ h' tk', s'' = { s₂ with heap := h', toks := tk' } ∧ Fr h₀ L h' m ∧ News h₀ L h' ((I, oI) :: (C, oC) :: (K, oK) :: (D, lst ys) :: news) ∧ J (i + 1) (ys ++ [y])) E' s'
        else ∃ h' tk', s' = { s₂ with heap := h', toks := tk' } ∧ Fr h₀ L h' m ∧ News h₀ L h' ((I, oI) :: (C, oC) :: (K, oK) :: (D, lst ys) :: news) ∧ J (i + 1) ys) E' { s₂ with heap := h, toks := tk })
    (hRR : ∀ D C h tk m' ys, Fr h₀ L h m → News h₀ L h ((D, lst ys) :: news) → Off1 D news → h.Ns C m' → h₀.get? C = none → h₀.get? D = none → C ≠ L → D ≠ L → C ≠ D → (∀ p ∈ news, p.1 ≠ C) → J n ys → RR (.ref D) C (.ok .next) { s₂ with heap := h, toks := tk }) :
    wpAny (model prog w) A (newList []) (fun acc s₃ => wpAny (model prog w) A (newFunctionEnv scope env.globals cl [] env.qual none .none (some env)) (fun cenv s₄ =>
      codeAny (model prog w) A (.compStart (.ListComp elt [⟨.Name x px, iter, [ct], 0⟩] scope pos) 0 (.ref I) acc { cenv with scope := relabel scope env }) (RR acc cenv.locals) s₄) E s₃) E s₂ := by
  refine wpAny_newObj_type (newEnvC1 hp hcf fun h₁ e₁ => ?_)
  dsimp only at e₁ ⊢
  generalize hH2 : s₂.heap.push { cls := .type "list", dict := none, data := .seq ([] : List Value).toArray } = H2 at e₁ ⊢
  have hC : H2.objs.size = s₂.heap.objs.size + 1 := by rw [← hH2, Heap.size_push]
  have hDlt : s₂.heap.objs.size < H2.objs.size := by omega
  have up : ∀ b o, H2.get? b = some o → h₁.get? b = some o := fun b o e => by rw [e₁]; exact Heap.get?_push_of_some _ (Heap.get?_push_of_some _ e)
  have old : ∀ b o, s₂.heap.get? b = some o → h₁.get? b = some o := fun b o e => up b o (hH2 ▸ Heap.get?_push_of_some _ e)
  have hacc : h₁.get? s₂.heap.objs.size = some (lst []) := up _ _ (hH2 ▸ Heap.get?_push_size _ rfl)
  have hns : h₁.Ns H2.objs.size (fun _ => none) := by
    rw [e₁]
    exact (Heap.Ns.new H2 (.type "dict")).keeps fun b o e => Heap.get?_push_of_some _ e
  have hcellK : h₁.get? (H2.objs.size + 1) = some { cls := .type "cell", data := .cell none } := by
    rw [e₁]
    have := Heap.get?_push_size (h := H2.push { cls := .type "dict", data := .dict #[] }) (o := { cls := .type "cell", data := .cell none }) rfl
    rwa [Heap.size_push] at this
  have fresh : ∀ a, s₂.heap.objs.size ≤ a → s₂.heap.get? a = none := fun a ha => by
    cases e : s₂.heap.get? a with
    | none => rfl
    | some o' => exact absurd (Heap.lt_size e) (Nat.not_lt.mpr ha)
  have fresh₀ : ∀ a, s₂.heap.objs.size ≤ a → h₀.get? a = none := fun a ha => by
    cases e : h₀.get? a with
    | none => rfl
    | some o' => have := F.keep a o' e; rw [fresh a ha] at this; cases this
  obtain ⟨oI0, heI0⟩ := hIo _ _ hst
  have hIlt : I < s₂.heap.objs.size := Heap.lt_size heI0
  have hLlt : L < s₂.heap.objs.size := F.ns.lt
  generalize hDd : s₂.heap.objs.size = D at *
  generalize hCc : H2.objs.size = C at *
  have hlt : ∀ p ∈ news, p.1 < D := fun p hp => hDd ▸ Heap.lt_size (N p hp).1
  have hD₀ : h₀.get? D = none := fresh₀ _ (Nat.le_refl _)
  have hC₀ : h₀.get? C = none := fresh₀ _ (Nat.le_of_lt hDlt)
  have hK₀ : h₀.get? (C + 1) = none := fresh₀ _ (Nat.le_succ_of_le (Nat.le_of_lt hDlt))
  have hIC : I ≠ C := Nat.ne_of_lt (Nat.lt_trans hIlt hDlt)
  have hID : I ≠ D := Nat.ne_of_lt hIlt
  have hIK : I ≠ C + 1 := Nat.ne_of_lt (Nat.lt_succ_of_lt (Nat.lt_trans hIlt hDlt))
  have hLC : L ≠ C := Nat.ne_of_lt (Nat.lt_trans hLlt hDlt)
  have hLD : L ≠ D := Nat.ne_of_lt hLlt
  have hLK : L ≠ C + 1 := Nat.ne_of_lt (Nat.lt_succ_of_lt (Nat.lt_trans hLlt hDlt))
  have hDC : D ≠ C := Nat.ne_of_lt hDlt
  have hDK : D ≠ C + 1 := Nat.ne_of_lt (Nat.lt_succ_of_lt hDlt)
  have hCK : C ≠ C + 1 := Nat.ne_of_lt (Nat.lt_succ_self _)
  (refine hideP ?_; intro PP hPP); (obtain ⟨oC, heC, hoC⟩ := ns_obj hns) <;> (refine hPP ?_; clear hPP; clear PP)
  have F₁ : Fr h₀ L h₁ m := F.keeps old
  have offC : ∀ p ∈ news, p.1 ≠ C := fun p hp => Nat.ne_of_lt (Nat.lt_trans (hlt p hp) hDlt)
  have offK : ∀ p ∈ news, p.1 ≠ C + 1 := fun p hp => Nat.ne_of_lt (Nat.lt_succ_of_lt (Nat.lt_trans (hlt p hp) hDlt))
  have offD : ∀ p ∈ news, p.1 ≠ D := fun p hp => Nat.ne_of_lt (hlt p hp)
  have loop : ∀ s₃ : Shared, s₃ = { s₂ with heap := h₁ } →
      codeAny (model prog w) A (.compLoop (.ListComp elt [⟨.Name x px, iter, [ct], 0⟩] scope pos) 0 (.ref I) (.ref D) (compEnvC scope ((x, C + 1) :: cl) C env)) (RR (.ref D) C) s₃ := by
    rintro s₃ rfl
    refine codeAny_compLoop_tests
      (fun k s' => ∃ h' tk i ys oK, s' = { s₂ with heap := h', toks := tk } ∧ i ≤ n ∧ k = n + 1 - i ∧ ys.length ≤ i ∧ St i h' ∧ Fr h₀ L h' m ∧ News h₀ L h' ((C, oC) :: (C + 1, oK) :: (D, lst ys) :: news) ∧ (∃ vo, oK.data = .cell vo) ∧ J i ys) ?_ (n + 1)
      ⟨h₁, s₂.toks, 0, [], { cls := .type "cell", data := .cell none }, rfl, Nat.zero_le _, rfl, Nat.le_refl _, W.frame _ _ _ hst fun b _ o e => old b o e, F₁, fun p hp => ?_, ⟨none, rfl⟩, j0⟩
    · intro k s' jz2
      (refine hideP ?_; intro PP hPP); (obtain ⟨h', tk, i, ys, oK, rfl, hi, rfl, hyl, hst', F', N', ⟨vo, hvo⟩, hJ⟩ := jz2) <;> (refine hPP ?_; clear hPP; clear PP)
      by_cases hlt' : i < n
      · refine W.item i _ _ _ hlt' hst' fun v h₂ tk₂ hPv hst₂ hk₂ => ?_
        have F₂ := fr_but F' hk₂ hIL hI₀
        have N₂ : News h₀ L h₂ ((C, oC) :: (C + 1, oK) :: (D, lst ys) :: news) := news_but N' hk₂ fun p hp => by
          rcases List.mem_cons.mp hp with rfl | hp
          · exact Ne.symm hIC
          rcases List.mem_cons.mp hp with rfl | hp
          · exact Ne.symm hIK
          rcases List.mem_cons.mp hp with rfl | hp
          · exact Ne.symm hID
          · exact off p hp
        refine wpAny_assign_Name (wpAny_storeName_cell (c := C + 1) (v₀ := vo) (by simp [compEnvC, relabel, hkind]) (hx _ _) (by simp [compEnvC]) ⟨oK, (N₂ (C + 1, oK) (.tail _ (.head _))).1, hvo⟩ (fun h₃ hv₃ hs₃ => ?_))
        refine wpAny_tests_one ?_
        (refine hideP ?_; intro PP hPP); (obtain ⟨oK', heK, hoK⟩ := hv₃) <;> (refine hPP ?_; clear hPP; clear PP)
        have hst₃ : St (i + 1) h₃ := W.frame _ _ _ hst₂ fun b hb o e => hs₃.extBut b o (fun q => hIK (by rw [← List.mem_singleton.mp hb]; exact q)) e
        obtain ⟨oI, heI⟩ := hIo _ _ hst₃
        have F₃ : Fr h₀ L h₃ m := F₂.change hs₃ (Ne.symm hLK) hK₀
        have N₃ : News h₀ L h₃ ((I, oI) :: (C, oC) :: (C + 1, oK') :: (D, lst ys) :: news) := fun p hp => by
          rcases List.mem_cons.mp hp with rfl | hp
          · exact ⟨heI, Ne.symm hIL, hI₀⟩
          rcases List.mem_cons.mp hp with rfl | hp
          · exact ⟨hs₃.extBut _ _ hCK (N₂ (C, oC) (.head _)).1, Ne.symm hLC, hC₀⟩
          rcases List.mem_cons.mp hp with rfl | hp
          · exact ⟨heK, Ne.symm hLK, hK₀⟩
          rcases List.mem_cons.mp hp with rfl | hp
          · exact ⟨hs₃.extBut _ _ hDK (N₂ (D, lst ys) (.tail _ (.tail _ (.head _)))).1, Ne.symm hLD, hD₀⟩
          · have z := N₂ p (.tail _ (.tail _ (.tail _ hp)))
            exact ⟨hs₃.extBut _ _ (offK p hp) z.1, z.2⟩
        refine wpAny_mono (turn i ys v oI C oC (C + 1) oK' D h₃ _ _ hlt' hJ hPv hoK F₃ N₃) (fun ok s₄ h₄ => ?_) fun _ _ e => e
        cases ok with
        | true =>
          simp only [if_true] at h₄ ⊢
          refine wpAny_mono h₄ (fun y s₅ h₅ => ?_) fun _ _ e => e
          (refine hideP ?_; intro PP hPP); (obtain ⟨h₄, tk₄, rfl, F₄, N₄, J₄⟩ := h₅) <;> (refine hPP ?_; clear hPP; clear PP)
          have zD := (N₄ (D, lst ys) (.tail _ (.tail _ (.tail _ (.head _))))).1
          have hst₄ : St (i + 1) h₄ := hSt _ _ _ _ hst₃ heI (N₄ (I, oI) (.head _)).1
          refine append_at (hsz := by show ys.toArray.size ≤ sizeLine; rw [List.size_toArray]; exact Nat.le_trans (Nat.le_trans hyl hi) hsz) zD fun h₅ hs₅ hD₅ => ?_
          refine ⟨n + 1 - (i + 1), by omega, h₅, tk₄, i + 1, ys ++ [y], oK', rfl, hlt', rfl, by rw [List.length_append, List.length_singleton]; exact Nat.succ_le_succ hyl, W.frame _ _ _ hst₄ fun b hb o e => hs₅.extBut b o (fun q => hID (by rw [← List.mem_singleton.mp hb]; exact q)) e, F₄.change hs₅ (Ne.symm hLD) hD₀, fun p hp => ?_, ⟨_, hoK⟩, J₄⟩
          have N₄' : News h₀ L h₄ ((C, oC) :: (C + 1, oK') :: (D, lst ys) :: news) := fun p hp => N₄ p (.tail _ hp)
          rcases List.mem_cons.mp hp with rfl | hp
          · exact ⟨hs₅.extBut _ _ (Ne.symm hDC) (N₄' _ (.head _)).1, (N₄' _ (.head _)).2⟩
          rcases List.mem_cons.mp hp with rfl | hp
          · exact ⟨hs₅.extBut _ _ (Ne.symm hDK) (N₄' _ (.tail _ (.head _))).1, (N₄' _ (.tail _ (.head _))).2⟩
          rcases List.mem_cons.mp hp with rfl | hp
          · exact ⟨hD₅.trans (congrArg some (lst_snoc ys y)), Ne.symm hLD, hD₀⟩
          · exact ⟨hs₅.extBut _ _ (offD p hp) (N₄' p (.tail _ (.tail _ (.tail _ hp)))).1, (N₄' p (.tail _ (.tail _ (.tail _ hp)))).2⟩
        | false =>
          simp only [Bool.false_eq_true, if_false] at h₄ ⊢
          (refine hideP ?_; intro PP hPP); (obtain ⟨h₄, tk₄, rfl, F₄, N₄, J₄⟩ := h₄) <;> (refine hPP ?_; clear hPP; clear PP)
          have hst₄ : St (i + 1) h₄ := hSt _ _ _ _ hst₃ heI (N₄ (I, oI) (.head _)).1
          exact ⟨n + 1 - (i + 1), by omega, h₄, tk₄, i + 1, ys, oK', rfl, hlt', rfl, Nat.le_succ_of_le hyl, hst₄, F₄, fun p hp => N₄ p (.tail _ hp), ⟨_, hoK⟩, J₄⟩
      · obtain rfl : i = n := Nat.le_antisymm hi (Nat.not_lt.mp hlt')
        refine W.done _ _ _ hst' fun h₂ tk₂ hk₂ => ?_
        have N₂ : News h₀ L h₂ ((C, oC) :: (C + 1, oK) :: (D, lst ys) :: news) := news_but N' hk₂ fun p hp => by
          rcases List.mem_cons.mp hp with rfl | hp
          · exact Ne.symm hIC
          rcases List.mem_cons.mp hp with rfl | hp
          · exact Ne.symm hIK
          rcases List.mem_cons.mp hp with rfl | hp
          · exact Ne.symm hID
          · exact off p hp
        have o1 : ∀ l : List (Addr × Obj), (∀ p ∈ l, p.1 ≠ D) → Off1 D l := fun l => by
          induction l with
          | nil => exact fun _ => trivial
          | cons a r ih => exact fun h => ⟨h a (.head _), ih fun p hp => h p (.tail _ hp)⟩
        exact hRR D C h₂ tk₂ (fun _ => none) ys (fr_but F' hk₂ hIL hI₀) (fun p hp => N₂ p (.tail _ (.tail _ hp))) (o1 _ offD) (hoC.ns (N₂ (C, oC) (.head _)).1) hC₀ hD₀ (Ne.symm hLC) (Ne.symm hLD) (Ne.symm hDC) offC hJ
    · rcases List.mem_cons.mp hp with rfl | hp
      · exact ⟨heC, Ne.symm hLC, hC₀⟩
      rcases List.mem_cons.mp hp with rfl | hp
      · exact ⟨hcellK, Ne.symm hLK, hK₀⟩
      rcases List.mem_cons.mp hp with rfl | hp
      · exact ⟨hacc, Ne.symm hLD, hD₀⟩
      · exact ⟨old _ _ (N p hp).1, (N p hp).2⟩
  exact codeAny_compStart_list (loop _ rfl) (W.self 0 _ _ _ (W.frame _ _ _ hst fun b _ o e => old b o e) (loop _ rfl))
end
section
open LCg
variable {prog : Program} {w : World} {A : Around} {E : Value → Shared → Prop} {s : Shared} {h₀ : Heap} {L : Addr} {m : Str → Option Value} {env : Env}
noncomputable def SrcTC (prog : Program) (w : World) (A : Around) (h₀ : Heap) (L : Addr) (m : Str → Option Value) (env : Env) (ct elt : PySem.Expr) (x : Str) (scope : Scope) (cl : List (Str × Addr)) (n : Nat) (J : Nat → List Value → Prop) (Q : Value → Shared → Prop) (xv : Value) (s₁ : Shared) : Prop :=
  ∃ r a b t u v news, xv = .ref r ∧ A.handled = none ∧ Fr h₀ L s₁.heap m ∧ News h₀ L s₁.heap news ∧ IsRange s₁.heap r a b 1 t u v ∧ Builtin.Range.small a b 1 = true ∧ Builtin.Range.rangeSize a b 1 = ((n : Nat) : Int) ∧ n ≤ sizeLine ∧ J 0 [] ∧
    (∀ s₂ : Shared, (∃ h, s₂ = { s₁ with heap := h }) → ∀ i ys v oI I oC C K oK D h tk (E' : Value → Shared → Prop), i < n → J i ys → (∃ t, v = .int (a + (i : Int)) t) → oK.data = .cell (some v) → Fr h₀ L h m → News h₀ L h ((I, oI) :: (C, oC) :: (K, oK) :: (D, lst ys) :: news) →
      wpAny (model prog w) A (isTrue ct (compEnvC scope ((x, K) :: cl) C env) (eval ct (compEnvC scope ((x, K) :: cl) C env))) (fun ok s' => if ok = true then
        wpAny (model prog w) A (eval elt (compEnvC scope ((x, K) :: cl) C env)) (fun y s'' => ∃ h' tk', s'' = { s₂ with heap := h', toks := tk' } ∧ Fr h₀ L h' m ∧ News h₀ L h' ((I, oI) :: (C, oC) :: (K, oK) :: (D, lst ys) :: news) ∧ J (i + 1) (ys ++ [y])) E' s'
        else ∃ h' tk', s' = { s₂ with heap := h', toks := tk' } ∧ Fr h₀ L h' m ∧ News h₀ L h' ((I, oI) :: (C, oC) :: (K, oK) :: (D, lst ys) :: news) ∧ J (i + 1) ys) E' { s₂ with heap := h, toks := tk }) ∧
    (∀ s₂ : Shared, (∃ h, s₂ = { s₁ with heap := h }) → ∀ ys, J n ys → FinE h₀ L m s₂ Q ys news)
theorem ListComp_TC {ct elt iter : PySem.Expr} {x : Str} {px : Pos} {scope : Scope} {cl : List (Str × Addr)} {pos : Pos} {Q : Value → Shared → Prop} (n : Nat) (J : Nat → List Value → Prop) (_F₀ : Fr h₀ L s.heap m)
    (hclos : closureFor scope env = pure cl) (hkind : scope.kind = .function)
    (hnames : ∀ y ∈ scope.names, y.2 = .local → scope.names.lookup y.1 = some .local)
    (hp : ∀ h : Heap, pushCells h scope.names = h.push { cls := .type "cell", data := .cell none }) (hcf : ∀ n acc, cellsFrom n scope.names acc = (x, n) :: acc)
    (hx : ∀ cl C, (compEnvC scope cl C env).kindOf x = some .cell)
    (h : wpAny (model prog w) A (eval iter env) (SrcTC prog w A h₀ L m env ct elt x scope cl n J Q) E s)
    (hs : ∀ x, foldedSetIterable iter env x = pure x := by intro _; rfl) :
    wpAny (model prog w) A (eval (.ListComp elt [⟨.Name x px, iter, [ct], 0⟩] scope pos) env) Q E s := by
  rw [eval_ListComp]
  refine wpAny_comprehension_free (use := none) rfl hs hclos hkind hnames (wpAny_mono h (fun xv s₁ h₁ => ?_) fun _ _ e => e)
  (refine hideP ?_; intro PP hPP); (obtain ⟨r, a, b, t, u, v, news, rfl, hh, F, N, hr, hsm, hn, hsz, j0, turn, fin⟩ := h₁) <;> (refine hPP ?_; clear hPP; clear PP)
  refine wpAny_pyIter_range hr hsm ?_
  refine block_TC (range_walks hh a n) hsz (fun i h st => ⟨_, st⟩) (fun i h h' o st e e' => ?_) hp hcf hkind hx (by show IsRangeIter _ _ _ _ _; rw [hn]; simpa using Heap.get?_push_size _ rfl) (F.keeps fun _ _ e => Heap.get?_push_of_some _ e) (N.grown fun _ _ e => Heap.get?_push_of_some _ e)
    (Nat.ne_of_lt F.ns.lt) (next_is_new F) (fun p hp => Nat.ne_of_lt (Heap.lt_size (N p hp).1)) J j0 (fun i ys v oI C oC K oK D h tk E' hi hj hP hK F N => turn _ ⟨_, rfl⟩ i ys v oI _ oC C K oK D h tk E' hi hj hP hK F N) ?_
  · have st' : h.get? _ = some _ := st
    show h'.get? _ = some _
    rw [e', ← e]; exact st'
  · intro D C h' tk m' ys F' N' o1 hn hC₀ hD₀ hCL hDL hCD offC j
    refine ⟨m', hn, fun h'' hs'' => fin s₁ ⟨s₁.heap, rfl⟩ ys j D h'' tk (F'.change hs'' hCL hC₀) (fun p hp => ?_) o1⟩
    refine ⟨hs''.extBut _ _ ?_ (N' p hp).1, (N' p hp).2⟩
    rcases List.mem_cons.mp hp with rfl | hp
    · exact Ne.symm hCD
    · exact offC p hp
end

/-! T_s7 -/
theorem flushT_s7 : True ∧ True := by first | (row_walk; done) | (walk1; done) | exact ⟨trivial, trivial⟩
theorem and_facts : ∀ a : Nat, a < 32 → ∀ i : Nat, i < 32 → Builtin.bitAnd (a : Int) (0 + (i : Int)) = ((a &&& i : Nat) : Int) := by decide +kernel
noncomputable def hitN (ms : List Nat) (i : Nat) : List Nat := ms.filter fun one => one &&& i == i
theorem hit_nil (ms : List Nat) (i : Nat) : ((hitN ms i).map fun n : Nat => (n : Int)) = [] ↔ InFam ms i = false := by
  unfold hitN InFam
  rw [List.map_eq_nil_iff, List.filter_eq_nil_iff, List.any_eq_false]
theorem fam_snoc (ms : List Nat) (i : Nat) : (List.range (i + 1)).filter (InFam ms) = (List.range i).filter (InFam ms) ++ (if InFam ms i = true then [i] else []) := by
  rw [List.range_succ, List.filter_append]
  congr 1
  by_cases h : InFam ms i = true
  · rw [if_pos h]; simp [h]
  · rw [if_neg h]; simp [h]
section
theorem s7 {w : World} {p : Program} {loose : List Str} {mean : ExcName → Option Value} {mg mb : Str → Option Value} {dp un : Nat} {fs : Option (List Env)} {gd : Option (List Code)} {g : Heap} {L fa : Addr} {cd : Value} {s : Shared} {Q : Flow → Shared → Prop}
  (hdp : dp + 40 < recursionLimit) (hun : un + 400 < cLine) (X' : (hd.heap_39 w.params).In g) (T' : Top p loose mean mg mb g) (hC1 : CodeHd g 163 159) (hC2 : CodeHd g 111 107)
  (ret : ∀ h' tk', (∀ b o, g.get? b = some o → h'.get? b = some o) → GrownAt 159 h' → GrownAt 107 h' → Q (.ret (.bool true)) { s with heap := h', toks := tk' })
  {ps7 : Array Value}
  {M RD : Addr} {nM nR : Nat} {vM vR : List Value} {ms : List Nat} (hvM : IntsAre vM (ms.map fun n : Nat => (n : Int))) (hml : ms.length ≤ 3) (hms : ∀ m ∈ ms, m < 32) (hvR : IntsAre vR ((downRow ms).map fun n : Nat => (n : Int)))
  {m : Str → Option Value} (F : Fr g L s.heap m)
  {c1 c2 c3 c4 : Obj} (hc1 : c1.data = .cell (some (.ref M))) (hc3 : c3.data = .cell (some (.ref RD)))
  (N : News g L s.heap [(RD, listOf vR.toArray nR), (M, listOf vM.toArray nM), (L + 1 + 1 + 1 + 1, c4), (L + 1 + 1 + 1, c3), (L + 1 + 1, c2), (L + 1, c1), (159, tabObj #[]), (107, tabObj ps7)])
  (next : ∀ h' tk' m', Fr g L h' m' → News g L h' [(RD, listOf vR.toArray nR), (M, listOf vM.toArray nM), (L + 1 + 1 + 1 + 1, c4), (L + 1 + 1 + 1, c3), (L + 1 + 1, c2), (L + 1, c1), (159, tabObj #[]), (107, tabObj ps7)] →
    wpAny (model PySem.Challenge.rw_ty0032_01.row.prog w) ((arA dp un fs gd).deeper (lawEnv L fa cd)) (execs (lawR.body.drop 11) (lawEnv L fa cd)) Q (fun _ _ => False) { s with heap := h', toks := tk' }) :
  wpAny (model PySem.Challenge.rw_ty0032_01.row.prog w) ((arA dp un fs gd).deeper (lawEnv L fa cd)) (execs (lawR.body.drop 10) (lawEnv L fa cd)) Q (fun _ _ => False) s := by
    unfold lawEnv at next ⊢
    dsimp only [lawR, recOf, List.drop] at next ⊢
    have hvMl : vM.length = ms.length := by rw [hvM.length, List.length_map]
    (repeat' (first | (k_unfold; (try dsimp only)) | row_room_at HE | (k_end; wrow_close) | ((with_reducible show Exists _); (refine halt ?_)) | ((with_reducible show wpAny _ _ (execs (Stmt.Assign [Expr.Name (Str.ofString "levels") _] _ _ :: _) _) _ _ _); k_here; refine halt ?_) | ((with_reducible show wpAny _ _ (compareOp CmpOp.NotEq (Value.ref _) (Value.ref _)) _ _ _); (k_here; refine halt ?_)) | ((with_reducible show PyProof.Rows.LCt.CompSrcT _ _ _ _ _ _ _ _ _ _ _ _ _ _ _); (k_here; refine halt ?_)) | ((with_reducible show wpAny _ _ (eval (Expr.ListComp _ _ _ _) _) _ _ _); k_here; refine halt ?_) | row_room_at HB | (dsimp only; (first | ((with_reducible show Exists _); (refine halt ?_)) | ((with_reducible show wpAny _ _ (execs (Stmt.Assign [Expr.Name (Str.ofString "levels") _] _ _ :: _) _) _ _ _); k_here; refine halt ?_) | ((with_reducible show wpAny _ _ (compareOp CmpOp.NotEq (Value.ref _) (Value.ref _)) _ _ _); (k_here; refine halt ?_)) | ((with_reducible show PyProof.Rows.LCt.CompSrcT _ _ _ _ _ _ _ _ _ _ _ _ _ _ _); (k_here; refine halt ?_)) | ((with_reducible show wpAny _ _ (eval (Expr.ListComp _ _ _ _) _) _ _ _); k_here; refine halt ?_) | walk1 | row_room_at HE)) | (leave1; walk_say "STEP leave1"; try dsimp only)))
    refine go ?_
    refine ListComp_TC 32 (fun i ys => IntsAre ys (((List.range i).filter (InFam ms)).map fun n : Nat => (n : Int))) (by k_asm) (by with_unfolding_all rfl) (by rfl) (by decide) (fun _ => rfl) (fun _ _ => rfl) (fun _ _ => by rfl) ?_
    (repeat' (first | (k_unfold; (try dsimp only)) | row_room_at HE | (k_end; wrow_close) | ((with_reducible show Exists _); (refine halt ?_)) | ((with_reducible show wpAny _ _ (execs (Stmt.Assign [Expr.Name (Str.ofString "levels") _] _ _ :: _) _) _ _ _); k_here; refine halt ?_) | ((with_reducible show wpAny _ _ (compareOp CmpOp.NotEq (Value.ref _) (Value.ref _)) _ _ _); (k_here; refine halt ?_)) | ((with_reducible show PyProof.Rows.LCt.CompSrcT _ _ _ _ _ _ _ _ _ _ _ _ _ _ _); (k_here; refine halt ?_)) | ((with_reducible show wpAny _ _ (eval (Expr.ListComp _ _ _ _) _) _ _ _); k_here; refine halt ?_) | row_room_at HB | (dsimp only; (first | ((with_reducible show Exists _); (refine halt ?_)) | ((with_reducible show wpAny _ _ (execs (Stmt.Assign [Expr.Name (Str.ofString "levels") _] _ _ :: _) _) _ _ _); k_here; refine halt ?_) | ((with_reducible show wpAny _ _ (compareOp CmpOp.NotEq (Value.ref _) (Value.ref _)) _ _ _); (k_here; refine halt ?_)) | ((with_reducible show PyProof.Rows.LCt.CompSrcT _ _ _ _ _ _ _ _ _ _ _ _ _ _ _); (k_here; refine halt ?_)) | ((with_reducible show wpAny _ _ (eval (Expr.ListComp _ _ _ _) _) _ _ _); k_here; refine halt ?_) | walk1 | row_room_at HE)) | (leave1; walk_say "STEP leave1"; try dsimp only)))
    (with_reducible rename Fr _ _ _ _ => F1)
    (with_reducible rename News _ _ _ _ => N1)
    refine' ⟨_, 0, 32, _, _, _, [(RD, listOf vR.toArray nR), (M, listOf vM.toArray nM), (L + 1 + 1 + 1 + 1, c4), (L + 1 + 1 + 1, c3), (L + 1 + 1, c2), (L + 1, c1), (159, tabObj #[]), (107, tabObj ps7)], rfl, rfl, ?y1, ?y2, ?y3, ?y4, ?y5, ?y6, .nil, ?y7, ?y8⟩
    (case y1 => exact F1)
    (case y2 => exact N1)
    (case y3 => assumption)
    (case y4 => decide)
    (case y5 => rfl)
    (case y6 => exact size_small (by exact Nat.le_of_ble_eq_true rfl))
    · clear F1 N1 next
      rintro s2 ⟨hh2, rfl⟩ i ys v oI I oC C K oK D h tk E' hi hys ⟨ti, rfl⟩ hK F N
      (repeat' (first | (k_unfold; (try dsimp only)) | row_room_at HE | (k_end; wrow_close) | ((with_reducible show Exists _); (refine halt ?_)) | ((with_reducible show wpAny _ _ (execs (Stmt.Assign [Expr.Name (Str.ofString "levels") _] _ _ :: _) _) _ _ _); k_here; refine halt ?_) | ((with_reducible show wpAny _ _ (compareOp CmpOp.NotEq (Value.ref _) (Value.ref _)) _ _ _); (k_here; refine halt ?_)) | ((with_reducible show PyProof.Rows.LCt.CompSrcT _ _ _ _ _ _ _ _ _ _ _ _ _ _ _); (k_here; refine halt ?_)) | ((with_reducible show wpAny _ _ (eval (Expr.ListComp _ _ _ _) _) _ _ _); k_here; refine halt ?_) | row_room_at HB | (dsimp only; (first | ((with_reducible show Exists _); (refine halt ?_)) | ((with_reducible show wpAny _ _ (execs (Stmt.Assign [Expr.Name (Str.ofString "levels") _] _ _ :: _) _) _ _ _); k_here; refine halt ?_) | ((with_reducible show wpAny _ _ (compareOp CmpOp.NotEq (Value.ref _) (Value.ref _)) _ _ _); (k_here; refine halt ?_)) | ((with_reducible show PyProof.Rows.LCt.CompSrcT _ _ _ _ _ _ _ _ _ _ _ _ _ _ _); (k_here; refine halt ?_)) | ((with_reducible show wpAny _ _ (eval (Expr.ListComp _ _ _ _) _) _ _ _); k_here; refine halt ?_) | walk1 | row_room_at HE)) | (leave1; walk_say "STEP leave1"; try dsimp only)))
      refine go ?_
      refine LCt.ListComp_T (F₀ := by k_asm) (by with_unfolding_all rfl) (by decide) (by rfl) (by decide) (by rfl) ?_
      (repeat' (first | (k_unfold; (try dsimp only)) | row_room_at HE | (k_end; wrow_close) | ((with_reducible show Exists _); (refine halt ?_)) | ((with_reducible show wpAny _ _ (execs (Stmt.Assign [Expr.Name (Str.ofString "levels") _] _ _ :: _) _) _ _ _); k_here; refine halt ?_) | ((with_reducible show wpAny _ _ (compareOp CmpOp.NotEq (Value.ref _) (Value.ref _)) _ _ _); (k_here; refine halt ?_)) | ((with_reducible show PyProof.Rows.LCt.CompSrcT _ _ _ _ _ _ _ _ _ _ _ _ _ _ _); (k_here; refine halt ?_)) | ((with_reducible show wpAny _ _ (eval (Expr.ListComp _ _ _ _) _) _ _ _); k_here; refine halt ?_) | row_room_at HB | (dsimp only; (first | ((with_reducible show Exists _); (refine halt ?_)) | ((with_reducible show wpAny _ _ (execs (Stmt.Assign [Expr.Name (Str.ofString "levels") _] _ _ :: _) _) _ _ _); k_here; refine halt ?_) | ((with_reducible show wpAny _ _ (compareOp CmpOp.NotEq (Value.ref _) (Value.ref _)) _ _ _); (k_here; refine halt ?_)) | ((with_reducible show PyProof.Rows.LCt.CompSrcT _ _ _ _ _ _ _ _ _ _ _ _ _ _ _); (k_here; refine halt ?_)) | ((with_reducible show wpAny _ _ (eval (Expr.ListComp _ _ _ _) _) _ _ _); k_here; refine halt ?_) | walk1 | row_room_at HE)) | (leave1; walk_say "STEP leave1"; try dsimp only)))
      refine go ?_
      (with_reducible rename Fr _ _ _ _ => F2)
      (with_reducible rename News _ _ _ _ => N2)
      refine LCt.CompSrcT.ledger rfl F2 N2 (its := vM.toArray) (k := nM) (by k_mem) (size_small (by simp only [List.size_toArray]; omega)) ?_
      intro gg2
      have hsz2 : vM.toArray.size = ms.length := by rw [List.size_toArray, hvMl]
      refine compRestT_J (fun i2 ys2 news2 => IntsAre ys2 (((ms.take i2).filter fun one => one &&& i == i).map fun n : Nat => (n : Int)) ∧ news2 = (I, oI) :: (C, oC) :: (K, oK) :: (D, LCg.lst ys) :: [(RD, listOf vR.toArray nR), (M, listOf vM.toArray nM), (L + 1 + 1 + 1 + 1, c4), (L + 1 + 1 + 1, c3), (L + 1 + 1, c2), (L + 1, c1), (159, tabObj #[]), (107, tabObj ps7)]) ?_ ?_ _ 0 [] _ (Nat.zero_add _) ⟨.nil, rfl⟩
      · clear F2 N2
        rintro i2 ys2 news2 v2' I2 oI2 C2 oC2 D2 m₃ h6 tk6 E6 hin2 ⟨hys2, rfl⟩ hv2' hC2' hx2 F N off2 ne2
        rw [hsz2] at hin2
        obtain ⟨mk, hmm⟩ : ∃ mk, ms[i2]? = some mk := ⟨_, List.getElem?_eq_getElem hin2⟩
        obtain ⟨tm, hv3'⟩ := hvM.get i2 (mk : Int) (by rw [List.getElem?_map, hmm]; rfl)
        rw [List.getElem?_toArray, hv3'] at hv2'
        cases hv2'
        have hmk32 := hms mk (List.mem_of_getElem? hmm)
        have hand := and_facts mk hmk32 i hi
        have off20 := off2
        clear off2
        have hsn := filter_take_snoc ms (fun one => one &&& i == i) hmm
        (repeat' (first | (k_unfold; (try dsimp only)) | row_room_at HE | (k_end; wrow_close) | ((with_reducible show Exists _); (refine halt ?_)) | ((with_reducible show wpAny _ _ (execs (Stmt.Assign [Expr.Name (Str.ofString "levels") _] _ _ :: _) _) _ _ _); k_here; refine halt ?_) | ((with_reducible show wpAny _ _ (compareOp CmpOp.NotEq (Value.ref _) (Value.ref _)) _ _ _); (k_here; refine halt ?_)) | ((with_reducible show PyProof.Rows.LCt.CompSrcT _ _ _ _ _ _ _ _ _ _ _ _ _ _ _); (k_here; refine halt ?_)) | ((with_reducible show wpAny _ _ (eval (Expr.ListComp _ _ _ _) _) _ _ _); k_here; refine halt ?_) | row_room_at HB | (dsimp only; (first | ((with_reducible show Exists _); (refine halt ?_)) | ((with_reducible show wpAny _ _ (execs (Stmt.Assign [Expr.Name (Str.ofString "levels") _] _ _ :: _) _) _ _ _); k_here; refine halt ?_) | ((with_reducible show wpAny _ _ (compareOp CmpOp.NotEq (Value.ref _) (Value.ref _)) _ _ _); (k_here; refine halt ?_)) | ((with_reducible show PyProof.Rows.LCt.CompSrcT _ _ _ _ _ _ _ _ _ _ _ _ _ _ _); (k_here; refine halt ?_)) | ((with_reducible show wpAny _ _ (eval (Expr.ListComp _ _ _ _) _) _ _ _); k_here; refine halt ?_) | walk1 | row_room_at HE)) | (leave1; walk_say "STEP leave1"; try dsimp only)))
        · (with_reducible rename Fr _ _ _ _ => F5)
          (with_reducible rename News _ _ _ _ => N5)
          have hc : (mk &&& i == i) = true := by
            have e : Builtin.bitAnd (mk : Int) (0 + (i : Int)) = 0 + (i : Int) := by assumption
            rw [hand] at e
            rw [beq_iff_eq]; omega
          refine LCg.CompEnd.intro F5 N5 _ (fun _ hp => hp) off20 (.inr ⟨listOf vM.toArray nM, by k_mem, rfl, nM, rfl⟩) ⟨?_, rfl⟩
          rw [hsn, if_pos hc, List.map_append]
          exact IntsAre.append hys2 (.cons _ _ .nil)
        · (with_reducible rename Fr _ _ _ _ => F5)
          (with_reducible rename News _ _ _ _ => N5)
          have hc : ¬ (mk &&& i == i) = true := by
            have e : Builtin.bitAnd (mk : Int) (0 + (i : Int)) ≠ 0 + (i : Int) := by assumption
            rw [hand] at e
            rw [beq_iff_eq]
            intro q
            exact e (by omega)
          refine LCg.CompEnd.intro F5 N5 _ (fun _ hp => hp) off20 (.inr ⟨listOf vM.toArray nM, by k_mem, rfl, nM, rfl⟩) ⟨?_, rfl⟩
          rw [hsn, if_neg hc, List.append_nil]
          exact hys2
      · rintro ys2 news2 ⟨hys2, rfl⟩
        rw [hsz2, List.take_length] at hys2
        clear F2 N2
        unfold LCg.FinE
        intro D2 h7 tk7 F7 N7 o7
        (try dsimp only)
        (repeat' (first | (k_unfold; (try dsimp only)) | row_room_at HE | (k_end; wrow_close) | ((with_reducible show Exists _); (refine halt ?_)) | ((with_reducible show wpAny _ _ (execs (Stmt.Assign [Expr.Name (Str.ofString "levels") _] _ _ :: _) _) _ _ _); k_here; refine halt ?_) | ((with_reducible show wpAny _ _ (compareOp CmpOp.NotEq (Value.ref _) (Value.ref _)) _ _ _); (k_here; refine halt ?_)) | ((with_reducible show PyProof.Rows.LCt.CompSrcT _ _ _ _ _ _ _ _ _ _ _ _ _ _ _); (k_here; refine halt ?_)) | ((with_reducible show wpAny _ _ (eval (Expr.ListComp _ _ _ _) _) _ _ _); k_here; refine halt ?_) | row_room_at HB | (dsimp only; (first | ((with_reducible show Exists _); (refine halt ?_)) | ((with_reducible show wpAny _ _ (execs (Stmt.Assign [Expr.Name (Str.ofString "levels") _] _ _ :: _) _) _ _ _); k_here; refine halt ?_) | ((with_reducible show wpAny _ _ (compareOp CmpOp.NotEq (Value.ref _) (Value.ref _)) _ _ _); (k_here; refine halt ?_)) | ((with_reducible show PyProof.Rows.LCt.CompSrcT _ _ _ _ _ _ _ _ _ _ _ _ _ _ _); (k_here; refine halt ?_)) | ((with_reducible show wpAny _ _ (eval (Expr.ListComp _ _ _ _) _) _ _ _); k_here; refine halt ?_) | walk1 | row_room_at HE)) | (leave1; walk_say "STEP leave1"; try dsimp only)))
        refine go ?_
        (with_reducible rename Fr _ _ _ _ => F8)
        (with_reducible rename News _ _ _ _ => N8)
        refine' ke_ne_ints (ys := []) ?ja ?jb hys2 .nil ?ju ?_
        (case ja => exact ⟨_, (N8 (D2, LCg.lst ys2) (.tail _ (.head _))).1, rfl, _, rfl⟩)
        (case jb => exact ⟨_, (N8 (_, _) (.head _)).1, rfl, _, rfl⟩)
        (case ju => (first | exact lim2 hdp rfl | exact lim1 hdp rfl | exact lim2 hun rfl | exact lim1 hun rfl | exact lim0 hdp | exact lim0 hun | exact lim3 hdp rfl | exact lim3 hun rfl | ((try dsimp only [arA, Around.deeper]); omega)))
        have hfs := fam_snoc ms i
        have hnil := hit_nil ms i
        unfold hitN at hnil
        by_cases hc : InFam ms i = true
        · rw [decide_eq_false (fun e => by rw [hnil.mp e] at hc; cases hc)]
          (repeat' (first | (k_unfold; (try dsimp only)) | row_room_at HE | (k_end; wrow_close) | ((with_reducible show Exists _); (refine halt ?_)) | ((with_reducible show wpAny _ _ (execs (Stmt.Assign [Expr.Name (Str.ofString "levels") _] _ _ :: _) _) _ _ _); k_here; refine halt ?_) | ((with_reducible show wpAny _ _ (compareOp CmpOp.NotEq (Value.ref _) (Value.ref _)) _ _ _); (k_here; refine halt ?_)) | ((with_reducible show PyProof.Rows.LCt.CompSrcT _ _ _ _ _ _ _ _ _ _ _ _ _ _ _); (k_here; refine halt ?_)) | ((with_reducible show wpAny _ _ (eval (Expr.ListComp _ _ _ _) _) _ _ _); k_here; refine halt ?_) | row_room_at HB | (dsimp only; (first | ((with_reducible show Exists _); (refine halt ?_)) | ((with_reducible show wpAny _ _ (execs (Stmt.Assign [Expr.Name (Str.ofString "levels") _] _ _ :: _) _) _ _ _); k_here; refine halt ?_) | ((with_reducible show wpAny _ _ (compareOp CmpOp.NotEq (Value.ref _) (Value.ref _)) _ _ _); (k_here; refine halt ?_)) | ((with_reducible show PyProof.Rows.LCt.CompSrcT _ _ _ _ _ _ _ _ _ _ _ _ _ _ _); (k_here; refine halt ?_)) | ((with_reducible show wpAny _ _ (eval (Expr.ListComp _ _ _ _) _) _ _ _); k_here; refine halt ?_) | walk1 | row_room_at HE)) | (leave1; walk_say "STEP leave1"; try dsimp only)))
          refine go ?_
          (with_reducible rename Fr _ _ _ _ => F9)
          (with_reducible rename News _ _ _ _ => N9)
          refine ⟨_, _, rfl, F9, news_tail (news_tail N9), ?_⟩
          rw [hfs, if_pos hc, List.map_append]
          exact ints_snoc' (n := 0 + (i : Int)) (n' := (i : Int)) hys (Int.zero_add _) _
        · rw [Bool.not_eq_true] at hc
          rw [decide_eq_true (hnil.mpr hc)]
          (repeat' (first | (k_unfold; (try dsimp only)) | row_room_at HE | (k_end; wrow_close) | ((with_reducible show Exists _); (refine halt ?_)) | ((with_reducible show wpAny _ _ (execs (Stmt.Assign [Expr.Name (Str.ofString "levels") _] _ _ :: _) _) _ _ _); k_here; refine halt ?_) | ((with_reducible show wpAny _ _ (compareOp CmpOp.NotEq (Value.ref _) (Value.ref _)) _ _ _); (k_here; refine halt ?_)) | ((with_reducible show PyProof.Rows.LCt.CompSrcT _ _ _ _ _ _ _ _ _ _ _ _ _ _ _); (k_here; refine halt ?_)) | ((with_reducible show wpAny _ _ (eval (Expr.ListComp _ _ _ _) _) _ _ _); k_here; refine halt ?_) | row_room_at HB | (dsimp only; (first | ((with_reducible show Exists _); (refine halt ?_)) | ((with_reducible show wpAny _ _ (execs (Stmt.Assign [Expr.Name (Str.ofString "levels") _] _ _ :: _) _) _ _ _); k_here; refine halt ?_) | ((with_reducible show wpAny _ _ (compareOp CmpOp.NotEq (Value.ref _) (Value.ref _)) _ _ _); (k_here; refine halt ?_)) | ((with_reducible show PyProof.Rows.LCt.CompSrcT _ _ _ _ _ _ _ _ _ _ _ _ _ _ _); (k_here; refine halt ?_)) | ((with_reducible show wpAny _ _ (eval (Expr.ListComp _ _ _ _) _) _ _ _); k_here; refine halt ?_) | walk1 | row_room_at HE)) | (leave1; walk_say "STEP leave1"; try dsimp only)))
          refine go ?_
          (with_reducible rename Fr _ _ _ _ => F9)
          (with_reducible rename News _ _ _ _ => N9)
          refine ⟨_, _, rfl, F9, news_tail (news_tail N9), ?_⟩
          rw [hfs, if_neg (by rw [hc]; exact Bool.false_ne_true), List.append_nil]
          exact hys
    · rintro s2 ⟨hh2, rfl⟩ ys hys
      clear F1 N1
      unfold LCg.FinE
      intro D3 h9 tk9 F9 N9 o9
      (try dsimp only)
      (repeat' (first | (k_unfold; (try dsimp only)) | row_room_at HE | (k_end; wrow_close) | ((with_reducible show Exists _); (refine halt ?_)) | ((with_reducible show wpAny _ _ (execs (Stmt.Assign [Expr.Name (Str.ofString "levels") _] _ _ :: _) _) _ _ _); k_here; refine halt ?_) | ((with_reducible show wpAny _ _ (compareOp CmpOp.NotEq (Value.ref _) (Value.ref _)) _ _ _); (k_here; refine halt ?_)) | ((with_reducible show PyProof.Rows.LCt.CompSrcT _ _ _ _ _ _ _ _ _ _ _ _ _ _ _); (k_here; refine halt ?_)) | ((with_reducible show wpAny _ _ (eval (Expr.ListComp _ _ _ _) _) _ _ _); k_here; refine halt ?_) | row_room_at HB | (dsimp only; (first | ((with_reducible show Exists _); (refine halt ?_)) | ((with_reducible show wpAny _ _ (execs (Stmt.Assign [Expr.Name (Str.ofString "levels") _] _ _ :: _) _) _ _ _); k_here; refine halt ?_) | ((with_reducible show wpAny _ _ (compareOp CmpOp.NotEq (Value.ref _) (Value.ref _)) _ _ _); (k_here; refine halt ?_)) | ((with_reducible show PyProof.Rows.LCt.CompSrcT _ _ _ _ _ _ _ _ _ _ _ _ _ _ _); (k_here; refine halt ?_)) | ((with_reducible show wpAny _ _ (eval (Expr.ListComp _ _ _ _) _) _ _ _); k_here; refine halt ?_) | walk1 | row_room_at HE)) | (leave1; walk_say "STEP leave1"; try dsimp only)))
      refine go ?_
      (with_reducible rename Fr _ _ _ _ => F10)
      (with_reducible rename News _ _ _ _ => N10)
      have hys' : IntsAre ys ((downRow ms).map fun n : Nat => (n : Int)) := hys
      refine' ke_ne_ints ?la ?lb hvR hys' ?lu ?_
      (case la => exact isL (N10 (RD, listOf vR.toArray nR) (by k_mem)).1)
      (case lb => exact ⟨_, (N10 (D3, LCg.lst ys) (.head _)).1, rfl, _, rfl⟩)
      (case lu => (first | exact lim2 hdp rfl | exact lim1 hdp rfl | exact lim2 hun rfl | exact lim1 hun rfl | exact lim0 hdp | exact lim0 hun | exact lim3 hdp rfl | exact lim3 hun rfl | ((try dsimp only [arA, Around.deeper]); omega)))
      rw [decide_eq_true rfl]
      (repeat' (first | (k_unfold; (try dsimp only)) | row_room_at HE | (k_end; wrow_close) | ((with_reducible show Exists _); (refine halt ?_)) | ((with_reducible show wpAny _ _ (execs (Stmt.Assign [Expr.Name (Str.ofString "levels") _] _ _ :: _) _) _ _ _); k_here; refine halt ?_) | ((with_reducible show wpAny _ _ (compareOp CmpOp.NotEq (Value.ref _) (Value.ref _)) _ _ _); (k_here; refine halt ?_)) | ((with_reducible show PyProof.Rows.LCt.CompSrcT _ _ _ _ _ _ _ _ _ _ _ _ _ _ _); (k_here; refine halt ?_)) | ((with_reducible show wpAny _ _ (eval (Expr.ListComp _ _ _ _) _) _ _ _); k_here; refine halt ?_) | row_room_at HB | (dsimp only; (first | ((with_reducible show Exists _); (refine halt ?_)) | ((with_reducible show wpAny _ _ (execs (Stmt.Assign [Expr.Name (Str.ofString "levels") _] _ _ :: _) _) _ _ _); k_here; refine halt ?_) | ((with_reducible show wpAny _ _ (compareOp CmpOp.NotEq (Value.ref _) (Value.ref _)) _ _ _); (k_here; refine halt ?_)) | ((with_reducible show PyProof.Rows.LCt.CompSrcT _ _ _ _ _ _ _ _ _ _ _ _ _ _ _); (k_here; refine halt ?_)) | ((with_reducible show wpAny _ _ (eval (Expr.ListComp _ _ _ _) _) _ _ _); k_here; refine halt ?_) | walk1 | row_room_at HE)) | (leave1; walk_say "STEP leave1"; try dsimp only)))
      refine go ?_
      (with_reducible rename Fr _ _ _ _ => F11)
      (with_reducible rename News _ _ _ _ => N11)
      (repeat row_room_at HE)
      exact next _ _ _ F11 (news_tail N11)
end

/-! T_top -/
theorem flushT_top : True ∧ True := by first | (row_walk; done) | (walk1; done) | exact ⟨trivial, trivial⟩
theorem led_addr {w : World} {lx : Lx} {sg sg' pb pb' : List Value} {ns ns' np np' : Nat} {ln ln' : Value} {a : Addr} (h : ∀ q ∈ lx.led w sg ns pb np ln, @Ne Nat a q.1) : ∀ q ∈ lx.led w sg' ns' pb' np' ln', @Ne Nat a q.1 := fun q hq => by
  have hm : q.1 ∈ (lx.led w sg ns pb np ln).map (·.1) := by
    have : q.1 ∈ (lx.led w sg' ns' pb' np' ln').map (·.1) := List.mem_map_of_mem hq
    exact this
  (refine hideP ?_; intro PP hPP); (obtain ⟨q', hq', e⟩ := List.mem_map.mp hm) <;> (refine hPP ?_; clear hPP; clear PP)
  exact fun x => h q' hq' (x.trans e.symm)
theorem list_ne_tab {g h : Heap} {L : Addr} {news : List (Addr × Obj)} {a : Addr} {its : Array Value} {n : Nat} (N : News g L h news) (h1 : (a, listOf its n) ∈ news) (h2 : (159, tabObj #[]) ∈ news) : @Ne Nat a 159 := fun q => by
  have e1 := (N _ h1).1
  have e2 := (N _ h2).1
  dsimp only at e1 e2
  rw [show a = 159 from q, e2] at e1
  have e3 := Option.some.inj e1
  have e4 := congrArg Obj.data e3
  revert e4
  unfold tabObj PySem.W.listOf
  intro e4
  cases e4
theorem law_tail {w : World} {p : Program} {loose : List Str} {mean : ExcName → Option Value} {mg mb : Str → Option Value} {dp un : Nat} {fs : Option (List Env)} {gd : Option (List Code)} {g : Heap} {L fa : Addr} {cd : Value} {s : Shared} {Q : Flow → Shared → Prop}
  (hdp : dp + 40 < recursionLimit) (hun : un + 400 < cLine) (X' : (hd.heap_39 w.params).In g) (T' : Top p loose mean mg mb g) (hC1 : CodeHd g 163 159) (hC2 : CodeHd g 111 107)
  (ret : ∀ h' tk', (∀ b o, g.get? b = some o → h'.get? b = some o) → GrownAt 159 h' → GrownAt 107 h' → Q (.ret (.bool true)) { s with heap := h', toks := tk' })
  {ps7 : Array Value}
  {W M : Addr} {nW nM ns np : Nat} {tl : Tok} {wv sg vM : List Value} {ds : List Nat} {lx : Lx} (ok : lx.ok) (rs : ReadSpec w lx) (hws : StrsAre wv (ds.map wordN)) (hvM : IntsAre vM ((ds.map maskN).map fun n : Nat => (n : Int))) (hdl : ds.length ≤ 3)
  {R : Nat → List Str} {R' : List Str} (hR : ∀ i, i < (ds.map wordN).length → ∃ x, (ds.map wordN)[i]? = some x ∧ skipF (R i) = some (x, R (i + 1))) (hR1 : ∀ i, i ≤ (ds.map wordN).length → (∀ y ∈ R i, y.length = 1) ∧ (R i).length ≤ 1000)
  (hend : skipF (R (ds.map wordN).length) = some (Str.ofString "", R')) (hsg : StrsAre sg (R 0)) (hLt : @LT.lt Nat _ 159 L ∧ @LT.lt Nat _ 107 L)
  (hM : @Ne Nat (L + 1 + 1 + 1 + 1) M ∧ @Ne Nat (L + 1 + 1 + 1) M ∧ @Ne Nat (L + 1 + 1) M ∧ @Ne Nat (L + 1) M ∧ @Ne Nat 159 M ∧ @Ne Nat 107 M)
  {m : Str → Option Value} (F : Fr g L s.heap m) (hm : Knows m [("words", .ref W)])
  {c1 c2 c3 c4 : Obj} (hc1 : c1.data = .cell (some (.ref M))) (hc2 : c2.data = .cell (some (.ref lx.x1))) (hc3 : c3.data = .cell none) (hc4 : c4.data = .cell none)
  (lo : ∀ a ∈ [W, M, L + 1 + 1 + 1 + 1, L + 1 + 1 + 1, L + 1 + 1, L + 1, 159, 107], ∀ q ∈ lx.led w sg ns [] np (.int 1 tl), @Ne Nat a q.1)
  (N : News g L s.heap (lx.led w sg ns [] np (.int 1 tl) ++ [(W, listOf wv.toArray nW), (M, listOf vM.toArray nM), (L + 1 + 1 + 1 + 1, c4), (L + 1 + 1 + 1, c3), (L + 1 + 1, c2), (L + 1, c1), (159, tabObj #[]), (107, tabObj ps7)])) :
  wpAny (model PySem.Challenge.rw_ty0032_01.row.prog w) ((arA dp un fs gd).deeper (lawEnv L fa cd)) (execs (lawR.body.drop 6) (lawEnv L fa cd)) Q (fun _ _ => False) s := by
    have hwl : (ds.map wordN).length ≤ 3 := by rw [List.length_map]; exact hdl
    have hml : (ds.map maskN).length ≤ 3 := by rw [List.length_map]; exact hdl
    have hms : ∀ m ∈ ds.map maskN, m < 32 := fun m hm => by
      (refine hideP ?_; intro PP hPP); (obtain ⟨d, _, rfl⟩ := List.mem_map.mp hm) <;> (refine hPP ?_; clear hPP; clear PP)
      exact maskN_lt d
    have hwo : ∀ x ∈ ds.map wordN, PyData.strOk x = true := fun x hx => by
      (refine hideP ?_; intro PP hPP); (obtain ⟨d, _, rfl⟩ := List.mem_map.mp hx) <;> (refine hPP ?_; clear hPP; clear PP)
      exact word_ok d
    have hM5 := And.intro hM.1 (And.intro hM.2.1 (And.intro hM.2.2.1 (And.intro hM.2.2.2.1 hM.2.2.2.2.1)))
    refine s4 hdp hun X' T' hC1 hC2 ret ok rs hws hwl hR hR1 hsg F hm hc2 lo N ?_
    intro h4 tk4 m4 D rv sg4 ns4 ks4 tl4 hrv hsg4 F4 hm4 off4 N4
    have hWd := words_of hrv
    refine s5 hdp hun X' T' hC1 hC2 (fun h tk => ret h tk) ok rs hws hrv hvM hWd hwl hwo hend (hR1 _ (Nat.le_refl _)).1 (hR1 _ (Nat.le_refl _)).2 hsg4 F4 hm4 hc1 hc2 (fun a ha => led_addr (lo a ha)) off4 N4 ?_
    intro h5 tk5 m5 ln F5 hm5 N5
    have oD := LCg_off1 off4 (lx.p1, _) (List.mem_append_left _ (.tail _ (.tail _ (.head _))))
    have op : ∀ a ∈ [W, M, L + 1 + 1 + 1 + 1, L + 1 + 1 + 1, L + 1 + 1, L + 1, 159, 107], @Ne Nat a lx.p1 := fun a ha => lo a ha (lx.p1, _) (.tail _ (.tail _ (.head _)))
    refine s6 hdp hun X' T' hC1 hC2 (fun h tk => ret h tk) ok hWd hml hms hLt hM5 F5 hm5 hc2 hc3 (fun a ha => ?_) N5 ?_
    · rcases List.mem_cons.mp ha with rfl | ha
      · exact Ne.symm oD
      · exact op a (.tail _ ha)
    intro h6 tk6 m6 RD vR nR c3' hvR F6 hc3' hR6 N6
    refine s7 hdp hun X' T' hC1 hC2 (fun h tk => ret h tk) hvM hml hms hvR F6 hc1 hc3' N6 ?_
    intro h7 tk7 m7 F7 N7
    refine s8 hdp hun X' T' hC1 hC2 (fun h tk => ret h tk) hvR hLt hM5 hR6 F7 hc3' N7 ?_
    intro h8 tk8 m8 LV a0 a1 a2 a3 DK b0 b1 b2 b3 nl n0 n1 n2 n3 k0 k1 k2 k3 v0 v1 v2 v3 w0 w1 w2 w3 hv hw F8 hm8 hne N8
    refine s9 hdp hun X' T' hC1 hC2 (fun h tk => ret h tk) hvM hml hms hLt F8 hm8 hc1 hc4 hne N8 ?_
    intro h9 tk9 m9 TX vT nT c4' hvT F9 hm9 hc4' N9
    refine s10 hdp hun X' T' hC1 hC2 (fun h tk => ret h tk) hms hvT hv hw (fun k => kept_lies k) F9 hm9 hc4' N9 ?_
    intro h10 tk10 m10 F10 hm10 N10
    refine s11 (ps7 := ps7) (LV := LV) (a0 := a0) (a1 := a1) (a2 := a2) (a3 := a3) (DK := DK) (b0 := b0) (b1 := b1) (b2 := b2) (b3 := b3) (nl := nl) (n0 := n0) (n1 := n1) (n2 := n2) (n3 := n3) (k0 := k0) (k1 := k1) (k2 := k2) (k3 := k3) hdp hun X' T' hC1 hC2 (fun h tk => ret h tk) hv hw (plain_k _) F10 hm10 (fun a ha => ?_) (news_sub N10 fun q hq => ?_)
    · revert ha
      revert a
      refine' all_cons ?_ (all_cons ?_ (all_cons ?_ (all_cons ?_ (all_cons ?_ (all_cons ?_ (all_cons ?_ (all_cons ?_ (all_cons ?_ (all_cons ?_ (all_cons ?_ (all_nil)))))))))))
      all_goals first | exact list_ne_tab N10 (by k_mem) (by k_mem) | exact (by decide : @Ne Nat 107 159)
    · simp only [List.cons_append, List.nil_append, List.mem_cons, List.not_mem_nil, or_false] at hq
      rcases hq with rfl | rfl | rfl | rfl | rfl | rfl | rfl | rfl | rfl | rfl | rfl | rfl
      all_goals k_mem
noncomputable def R2 (d0 d1 : Nat) : Nat → List Str
  | 0 => quotL d0 (sg1 10 :: bareL d1 [])
  | 1 => sg1 10 :: bareL d1 []
  | _ => []
noncomputable def R3 (d0 d1 d2 : Nat) : Nat → List Str
  | 0 => quotL d0 (sg1 10 :: bareL d1 (quotL d2 [sg1 10]))
  | 1 => sg1 10 :: bareL d1 (quotL d2 [sg1 10])
  | 2 => quotL d2 [sg1 10]
  | _ => [sg1 10]
theorem wordL_len (d : Nat) : (wordL d).length ≤ 3 := by
  unfold wordL
  rw [List.length_append, List.length_replicate, List.length_singleton]
  omega
theorem quotL_len (d : Nat) (r : List Str) : (quotL d r).length ≤ r.length + 5 := by
  have := wordL_len d
  unfold quotL
  simp only [List.length_cons, List.length_append, List.length_map]
  omega
theorem bareL_len (d : Nat) (r : List Str) : (bareL d r).length ≤ r.length + 7 := by
  have := wordL_len d
  have e : ∀ l : List Nat, (l.flatMap fun c => [92, c]).length = 2 * l.length := fun l => by
    induction l with
    | nil => rfl
    | cons a r ih => rw [List.flatMap_cons, List.length_append, ih]; simp only [List.length_cons, List.length_nil]; omega
  unfold bareL
  simp only [List.length_cons, List.length_append, List.length_map]
  rw [e]
  omega
theorem map_one (w : List Nat) : ∀ y ∈ w.map sg1, y.length = 1 := fun y hy => by
  (refine hideP ?_; intro PP hPP); (obtain ⟨c, _, rfl⟩ := List.mem_map.mp hy) <;> (refine hPP ?_; clear hPP; clear PP)
  rfl
theorem quotL_one (d : Nat) (r : List Str) (h : ∀ y ∈ r, y.length = 1) : ∀ y ∈ quotL d r, y.length = 1 := fun y hy => by
  unfold quotL at hy
  rcases List.mem_cons.mp hy with rfl | hy
  · rfl
  rcases List.mem_append.mp hy with hy | hy
  · exact map_one _ y hy
  rcases List.mem_cons.mp hy with rfl | hy
  · rfl
  · exact h y hy
theorem bareL_one (d : Nat) (r : List Str) (h : ∀ y ∈ r, y.length = 1) : ∀ y ∈ bareL d r, y.length = 1 := fun y hy => by
  unfold bareL at hy
  rcases List.mem_append.mp hy with hy | hy
  · exact map_one _ y hy
  rcases List.mem_cons.mp hy with rfl | hy
  · rfl
  · exact h y hy
theorem cons_one (r : List Str) (h : ∀ y ∈ r, y.length = 1) : ∀ y ∈ sg1 10 :: r, y.length = 1 := fun y hy => by
  rcases List.mem_cons.mp hy with rfl | hy
  · rfl
  · exact h y hy

/-! T_run -/
theorem flushT_run : True ∧ True := by first | (row_walk; done) | (walk1; done) | exact ⟨trivial, trivial⟩
theorem law_run2 {w : World} {p : Program} {loose : List Str} {mean : ExcName → Option Value} {mg mb : Str → Option Value} {dp un : Nat} {fs : Option (List Env)} {gd : Option (List Code)} {g : Heap} {L fa : Addr} {cd : Value} {s : Shared} {Q : Flow → Shared → Prop}
  (hdp : dp + 40 < recursionLimit) (hun : un + 400 < cLine) (X' : (hd.heap_39 w.params).In g) (T' : Top p loose mean mg mb g) (hC1 : CodeHd g 163 159) (hC2 : CodeHd g 111 107)
  (ret : ∀ h' tk', (∀ b o, g.get? b = some o → h'.get? b = some o) → GrownAt 159 h' → GrownAt 107 h' → Q (.ret (.bool true)) { s with heap := h', toks := tk' })
  {D : Addr} {ns : List Int} {ws : List Value} {n : Nat} (hws : IntsAre ws ((ns.take 3).map (fun k' => k'.fmod 1000000) ++ List.drop (((((ns.take 3).map fun k' => k'.fmod 1000000).length : Nat) : Int)).toNat [205, 492])) (hLt : @LT.lt Nat _ 159 L ∧ @LT.lt Nat _ 107 L) (hDL : @LT.lt Nat _ (L + 1 + 1 + 1 + 1) D)
  {m : Str → Option Value} (F : Fr g L s.heap m) (hm : Knows m [("drawn", .ref D)])
  {c1 c2 c3 c4 : Obj} (hc1 : c1.data = .cell none) (hc2 : c2.data = .cell none) (hc3 : c3.data = .cell none) (hc4 : c4.data = .cell none)
  (N : News g L s.heap [(D, listOf ws.toArray n), (L + 1 + 1 + 1 + 1, c4), (L + 1 + 1 + 1, c3), (L + 1 + 1, c2), (L + 1, c1), (159, tabObj #[]), (107, tabObj #[])]) :
  wpAny (model PySem.Challenge.rw_ty0032_01.row.prog w) ((arA dp un fs gd).deeper (lawEnv L fa cd)) (execs (lawR.body.drop 2) (lawEnv L fa cd)) Q (fun _ _ => False) s := by
  rcases drawn_cases hws with ⟨d0, d1, t0, t1, h0, h1, rfl⟩ | ⟨d0, d1, d2, t0, t1, t2, h0, h1, h2, rfl⟩
  · refine s2a hdp hun X' T' hC1 hC2 ret h0 h1 hLt hDL F hm hc1 hc2 hc3 hc4 N ?_
    intro ha tka ma W M nW nM v0 v1 u0 u1 c1' Fa hma hc1' hWM hM Na
    refine s3a hdp hun X' T' hC1 hC2 (fun h tk => ret h tk) hLt hWM hM Fa hma hc2 Na ?_
    intro hb tkb mb c2' lx sg nsg np tl ps7 ok rs hsg Fb hmb hc2' lo Nb
    rw [signs_writ] at hsg
    have o1 := cons_one _ (bareL_one d1 [] (fun y hy => nomatch hy))
    refine law_tail (ds := [d0, d1]) (R := R2 d0 d1) (R' := []) hdp hun X' T' hC1 hC2 (fun h tk => ret h tk) ok rs (.cons _ _ (.cons _ _ .nil)) (.cons _ _ (.cons _ _ .nil)) (Nat.le_of_ble_eq_true rfl) (fun i hi => ?_) (fun i hi => ?_) rfl hsg hLt hM Fb hmb hc1' hc2' hc3 hc4 lo Nb
    · have hi2 : i < 2 := hi
      obtain rfl | rfl : i = 0 ∨ i = 1 := by omega
      · exact ⟨_, rfl, skip_quotL _ _⟩
      · exact ⟨_, rfl, (skip_nl _).trans (skip_bareL _ _)⟩
    · have hi2 : i ≤ 2 := hi
      have b1 := bareL_len d1 []
      have q1 := quotL_len d0 (sg1 10 :: bareL d1 [])
      simp only [List.length_cons, List.length_nil] at b1 q1
      obtain rfl | rfl | rfl : i = 0 ∨ i = 1 ∨ i = 2 := by omega
      · exact ⟨quotL_one _ _ o1, by show (quotL d0 (sg1 10 :: bareL d1 [])).length ≤ 1000; omega⟩
      · exact ⟨o1, by show (sg1 10 :: bareL d1 []).length ≤ 1000; rw [List.length_cons]; omega⟩
      · exact ⟨(fun y hy => nomatch hy), Nat.zero_le _⟩
  · refine s2b hdp hun X' T' hC1 hC2 ret h0 h1 h2 hLt hDL F hm hc1 hc2 hc3 hc4 N ?_
    intro ha tka ma W M nW nM v0 v1 v2 u0 u1 u2 c1' Fa hma hc1' hWM hM Na
    refine s3b hdp hun X' T' hC1 hC2 (fun h tk => ret h tk) hLt hWM hM Fa hma hc2 Na ?_
    intro hb tkb mb c2' lx sg nsg np tl ps7 ok rs hsg Fb hmb hc2' lo Nb
    rw [signs_writ3] at hsg
    have o0 : ∀ y ∈ [sg1 10], y.length = 1 := cons_one [] (fun y hy => nomatch hy)
    have o2 := quotL_one d2 _ o0
    have o1 := cons_one _ (bareL_one d1 _ o2)
    refine law_tail (ds := [d0, d1, d2]) (R := R3 d0 d1 d2) (R' := []) hdp hun X' T' hC1 hC2 (fun h tk => ret h tk) ok rs (.cons _ _ (.cons _ _ (.cons _ _ .nil))) (.cons _ _ (.cons _ _ (.cons _ _ .nil))) (Nat.le_of_ble_eq_true rfl) (fun i hi => ?_) (fun i hi => ?_) (skip_nl []) hsg hLt hM Fb hmb hc1' hc2' hc3 hc4 lo Nb
    · have hi2 : i < 3 := hi
      obtain rfl | rfl | rfl : i = 0 ∨ i = 1 ∨ i = 2 := by omega
      · exact ⟨_, rfl, skip_quotL _ _⟩
      · exact ⟨_, rfl, (skip_nl _).trans (skip_bareL _ _)⟩
      · exact ⟨_, rfl, skip_quotL _ _⟩
    · have hi2 : i ≤ 3 := hi
      have q2 := quotL_len d2 [sg1 10]
      have b1 := bareL_len d1 (quotL d2 [sg1 10])
      have q1 := quotL_len d0 (sg1 10 :: bareL d1 (quotL d2 [sg1 10]))
      simp only [List.length_cons, List.length_nil] at b1 q1 q2
      obtain rfl | rfl | rfl | rfl : i = 0 ∨ i = 1 ∨ i = 2 ∨ i = 3 := by omega
      · exact ⟨quotL_one _ _ o1, by show (quotL d0 (sg1 10 :: bareL d1 (quotL d2 [sg1 10]))).length ≤ 1000; omega⟩
      · exact ⟨o1, by show (sg1 10 :: bareL d1 (quotL d2 [sg1 10])).length ≤ 1000; rw [List.length_cons]; omega⟩
      · exact ⟨o2, by show (quotL d2 [sg1 10]).length ≤ 1000; omega⟩
      · exact ⟨o0, by show [sg1 10].length ≤ 1000; decide⟩

/-! T_s1 -/
theorem flushT_s1 : True ∧ True := by first | (row_walk; done) | (walk1; done) | exact ⟨trivial, trivial⟩
-- NOHIDE
theorem news_head4 {g h : Heap} {L : Addr} {a b c d e : Addr × Obj} {r : List (Addr × Obj)} (N : News g L h (a :: b :: c :: d :: e :: r)) : News g L h (a :: r) := fun q hq => by
  rcases List.mem_cons.mp hq with rfl | hq
  · exact N _ (.head _)
  · exact N q (.tail _ (.tail _ (.tail _ (.tail _ (.tail _ hq)))))
section
theorem s1 {w : World} {p : Program} {loose : List Str} {mean : ExcName → Option Value} {mg mb : Str → Option Value} {dp un : Nat} {fs : Option (List Env)} {gd : Option (List Code)} {g : Heap} {L fa : Addr} {cd : Value} {s : Shared} {Q : Flow → Shared → Prop}
  (hdp : dp + 40 < recursionLimit) (hun : un + 400 < cLine) (X' : (hd.heap_39 w.params).In g) (T' : Top p loose mean mg mb g) (hC1 : CodeHd g 163 159) (hC2 : CodeHd g 111 107)
  (ret : ∀ h' tk', (∀ b o, g.get? b = some o → h'.get? b = some o) → GrownAt 159 h' → GrownAt 107 h' → Q (.ret (.bool true)) { s with heap := h', toks := tk' })
  {l : Addr} {vs : List Value} {ns : List Int} (hl : g.IsList l vs.toArray) (hi : IntsAre vs ns) (hlen : ns.length ≤ 63) (hLt : @LT.lt Nat _ 159 L ∧ @LT.lt Nat _ 107 L)
  {m : Str → Option Value} (F : Fr g L s.heap m) (hm : Knows m [("script", .ref l)])
  {c1 c2 c3 c4 : Obj}
  (N : News g L s.heap [(L + 1 + 1 + 1 + 1, c4), (L + 1 + 1 + 1, c3), (L + 1 + 1, c2), (L + 1, c1), (159, tabObj #[]), (107, tabObj #[])])
  (next : ∀ h' tk' m' (D : Addr) (ws : List Value) (n : Nat), IntsAre ws ((ns.take 3).map (fun k' => k'.fmod 1000000) ++ List.drop (((((ns.take 3).map fun k' => k'.fmod 1000000).length : Nat) : Int)).toNat [205, 492]) → Fr g L h' m' → Knows m' [("drawn", .ref D)] → @LT.lt Nat _ (L + 1 + 1 + 1 + 1) D →
    News g L h' [(D, listOf ws.toArray n), (L + 1 + 1 + 1 + 1, c4), (L + 1 + 1 + 1, c3), (L + 1 + 1, c2), (L + 1, c1), (159, tabObj #[]), (107, tabObj #[])] →
    wpAny (model PySem.Challenge.rw_ty0032_01.row.prog w) ((arA dp un fs gd).deeper (lawEnv L fa cd)) (execs (lawR.body.drop 2) (lawEnv L fa cd)) Q (fun _ _ => False) { s with heap := h', toks := tk' }) :
  wpAny (model PySem.Challenge.rw_ty0032_01.row.prog w) ((arA dp un fs gd).deeper (lawEnv L fa cd)) (execs lawR.body (lawEnv L fa cd)) Q (fun _ _ => False) s := by
    unfold lawEnv at next ⊢
    dsimp only [lawR, recOf, List.drop] at next ⊢
    replace F := fr_knows hm F
    clear hm
    have hvl : vs.length = ns.length := hi.length
    (repeat' (first | (k_unfold; (try dsimp only)) | (k_end; wrow_close) | ((with_reducible show wpAny _ _ (execs (Stmt.Assign [Expr.Name (Str.ofString "masks") _] _ _ :: _) _) _ _ _); k_here; refine halt ?_) | ((with_reducible show PyProof.Rows.LCg.CompSrc _ _ _ _ _ _ _ _ _ _ _ _ _ _); (k_here; refine halt ?_)) | ((with_reducible show wpAny _ _ (exec (Stmt.Assign [Expr.Name (Str.ofString "drawn") _] _ _) _) _ _ _); k_here; k_dflt (refine LCg.Assign_ListComp_U (F₀ := by k_asm) (by rfl) (by with_unfolding_all rfl) (by with_unfolding_all rfl) (by decide) (by rfl) (by decide) (by rfl) (by rfl) (by rfl) ?_)) | walk1 | (dsimp only; (first | ((with_reducible show wpAny _ _ (execs (Stmt.Assign [Expr.Name (Str.ofString "masks") _] _ _ :: _) _) _ _ _); k_here; refine halt ?_) | ((with_reducible show PyProof.Rows.LCg.CompSrc _ _ _ _ _ _ _ _ _ _ _ _ _ _); (k_here; refine halt ?_)) | ((with_reducible show wpAny _ _ (exec (Stmt.Assign [Expr.Name (Str.ofString "drawn") _] _ _) _) _ _ _); k_here; k_dflt (refine LCg.Assign_ListComp_U (F₀ := by k_asm) (by rfl) (by with_unfolding_all rfl) (by with_unfolding_all rfl) (by decide) (by rfl) (by decide) (by rfl) (by rfl) (by rfl) ?_)) | walk1)) | (leave1; walk_say "STEP leave1"; try dsimp only)))
    refine go ?_
    (with_reducible rename Fr _ _ _ _ => F1)
    (with_reducible rename News _ _ _ _ => N1)
    rename_i D1 ws1 _ hI1 _ _ _
    have hw1 : ws1.length = (ns.take 3).length := hI1.length
    have hl3 : (ns.take 3).length ≤ 3 := by rw [List.length_take]; omega
    refine LCg.CompSrc.ledger rfl F1 N1 (.head _) (size_small (by simp only [List.size_toArray]; omega)) ?_
    intro gg
    have hsz : ws1.toArray.size = (ns.take 3).length := by rw [List.size_toArray, hw1]
    refine compRest_J (fun i ys news => IntsAre ys (((ns.take 3).take i).map fun k' => k'.fmod 1000000) ∧ news = [(D1, listOf ws1.toArray 0), (L + 1 + 1 + 1 + 1, c4), (L + 1 + 1 + 1, c3), (L + 1 + 1, c2), (L + 1, c1), (159, tabObj #[]), (107, tabObj #[])]) ?_ ?_ _ 0 [] _ (Nat.zero_add _) ⟨.nil, rfl⟩
    · clear F1 N1 next
      rintro i ys news v I oI C oC DD m₂ h tk E' hin ⟨hys, rfl⟩ hv hC hx F N off ne
      rw [hsz] at hin
      obtain ⟨k, hk⟩ : ∃ k, (ns.take 3)[i]? = some k := ⟨_, List.getElem?_eq_getElem hin⟩
      obtain ⟨tm, hv3'⟩ := hI1.get i k hk
      rw [List.getElem?_toArray, hv3'] at hv
      cases hv
      have off0 := off
      clear off
      (repeat' (first | (k_unfold; (try dsimp only)) | (k_end; wrow_close) | ((with_reducible show wpAny _ _ (execs (Stmt.Assign [Expr.Name (Str.ofString "masks") _] _ _ :: _) _) _ _ _); k_here; refine halt ?_) | ((with_reducible show PyProof.Rows.LCg.CompSrc _ _ _ _ _ _ _ _ _ _ _ _ _ _); (k_here; refine halt ?_)) | ((with_reducible show wpAny _ _ (exec (Stmt.Assign [Expr.Name (Str.ofString "drawn") _] _ _) _) _ _ _); k_here; k_dflt (refine LCg.Assign_ListComp_U (F₀ := by k_asm) (by rfl) (by with_unfolding_all rfl) (by with_unfolding_all rfl) (by decide) (by rfl) (by decide) (by rfl) (by rfl) (by rfl) ?_)) | walk1 | (dsimp only; (first | ((with_reducible show wpAny _ _ (execs (Stmt.Assign [Expr.Name (Str.ofString "masks") _] _ _ :: _) _) _ _ _); k_here; refine halt ?_) | ((with_reducible show PyProof.Rows.LCg.CompSrc _ _ _ _ _ _ _ _ _ _ _ _ _ _); (k_here; refine halt ?_)) | ((with_reducible show wpAny _ _ (exec (Stmt.Assign [Expr.Name (Str.ofString "drawn") _] _ _) _) _ _ _); k_here; k_dflt (refine LCg.Assign_ListComp_U (F₀ := by k_asm) (by rfl) (by with_unfolding_all rfl) (by with_unfolding_all rfl) (by decide) (by rfl) (by decide) (by rfl) (by rfl) (by rfl) ?_)) | walk1)) | (leave1; walk_say "STEP leave1"; try dsimp only)))
      (with_reducible rename Fr _ _ _ _ => F5)
      (with_reducible rename News _ _ _ _ => N5)
      refine LCg.CompEnd.intro F5 N5 _ (fun _ hp => hp) off0 (.inr ⟨listOf ws1.toArray 0, .head _, rfl, 0, rfl⟩) ⟨?_, rfl⟩
      rw [List.take_add_one, hk, List.map_append]
      exact IntsAre.append hys (.cons _ _ .nil)
    · rintro ys news ⟨hys, rfl⟩
      rw [hsz, List.take_length] at hys
      unfold LCg.FinA
      intro D2 h3 tk3 F3 N3 off3
      simp only [LCg.Off1, and_true] at off3
      (try dsimp only)
      clear F1 N1
      have hz3 : ((ns.take 3).map fun k' => k'.fmod 1000000).length ≤ 3 := by rw [List.length_map]; exact hl3
      generalize ((ns.take 3).map fun k' => k'.fmod 1000000) = zs at hys next hz3
      have hyl : ys.length ≤ 3 := by rw [hys.length]; exact hz3
      have hyl2 : zs.length ≤ 3 := hz3
      have hz0 : (0 : Int) ≤ ((zs.length : Nat) : Int) := Int.natCast_nonneg _
      clear hI1
      (repeat' (first | (k_unfold; (try dsimp only)) | (k_end; wrow_close) | ((with_reducible show wpAny _ _ (execs (Stmt.Assign [Expr.Name (Str.ofString "masks") _] _ _ :: _) _) _ _ _); k_here; refine halt ?_) | ((with_reducible show PyProof.Rows.LCg.CompSrc _ _ _ _ _ _ _ _ _ _ _ _ _ _); (k_here; refine halt ?_)) | ((with_reducible show wpAny _ _ (exec (Stmt.Assign [Expr.Name (Str.ofString "drawn") _] _ _) _) _ _ _); k_here; k_dflt (refine LCg.Assign_ListComp_U (F₀ := by k_asm) (by rfl) (by with_unfolding_all rfl) (by with_unfolding_all rfl) (by decide) (by rfl) (by decide) (by rfl) (by rfl) (by rfl) ?_)) | walk1 | (dsimp only; (first | ((with_reducible show wpAny _ _ (execs (Stmt.Assign [Expr.Name (Str.ofString "masks") _] _ _ :: _) _) _ _ _); k_here; refine halt ?_) | ((with_reducible show PyProof.Rows.LCg.CompSrc _ _ _ _ _ _ _ _ _ _ _ _ _ _); (k_here; refine halt ?_)) | ((with_reducible show wpAny _ _ (exec (Stmt.Assign [Expr.Name (Str.ofString "drawn") _] _ _) _) _ _ _); k_here; k_dflt (refine LCg.Assign_ListComp_U (F₀ := by k_asm) (by rfl) (by with_unfolding_all rfl) (by with_unfolding_all rfl) (by decide) (by rfl) (by decide) (by rfl) (by rfl) (by rfl) ?_)) | walk1)) | (leave1; walk_say "STEP leave1"; try dsimp only)))
      refine go ?_
      (with_reducible rename Fr _ _ _ _ => F9)
      (with_reducible rename News _ _ _ _ => N9)
      (repeat row_room_at HE)
      refine' next _ _ _ _ _ _ ?n1 F9 ?n2 ?n3 (news_head4 N9)
      (case n1 => assumption)
      (case n2 => exact ⟨rfl, trivial⟩)
      (case n3 => omega)
end

/-! T_lr -/
theorem flushT_lr : True ∧ True := by first | (row_walk; done) | (walk1; done) | exact ⟨trivial, trivial⟩
theorem law_run {w : World} {p : Program} {loose : List Str} {mean : ExcName → Option Value} {mg mb : Str → Option Value} {dp un : Nat} {fs : Option (List Env)} {gd : Option (List Code)} {g : Heap} {L fa : Addr} {cd : Value} {s : Shared} {Q : Flow → Shared → Prop}
  (hdp : dp + 40 < recursionLimit) (hun : un + 400 < cLine) (X' : (hd.heap_39 w.params).In g) (T' : Top p loose mean mg mb g) (hC1 : CodeHd g 163 159) (hC2 : CodeHd g 111 107)
  (ret : ∀ h' tk', (∀ b o, g.get? b = some o → h'.get? b = some o) → GrownAt 159 h' → GrownAt 107 h' → Q (.ret (.bool true)) { s with heap := h', toks := tk' })
  {l : Addr} {vs : List Value} {ns : List Int} (hl : g.IsList l vs.toArray) (hi : IntsAre vs ns) (hlen : ns.length ≤ 63) (hLt : @LT.lt Nat _ 159 L ∧ @LT.lt Nat _ 107 L)
  {m : Str → Option Value} (F : Fr g L s.heap m) (hm : Knows m [("script", .ref l)])
  {c1 c2 c3 c4 : Obj} (hc1 : c1.data = .cell none) (hc2 : c2.data = .cell none) (hc3 : c3.data = .cell none) (hc4 : c4.data = .cell none)
  (N : News g L s.heap [(L + 1 + 1 + 1 + 1, c4), (L + 1 + 1 + 1, c3), (L + 1 + 1, c2), (L + 1, c1), (159, tabObj #[]), (107, tabObj #[])]) :
  wpAny (model PySem.Challenge.rw_ty0032_01.row.prog w) ((arA dp un fs gd).deeper (lawEnv L fa cd)) (execs lawR.body (lawEnv L fa cd)) Q (fun _ _ => False) s := by
  refine s1 hdp hun X' T' hC1 hC2 ret hl hi hlen hLt F hm N ?_
  intro h' tk' m' D ws n hws F' hm' hDL N'
  exact law_run2 hdp hun X' T' hC1 hC2 (fun h tk => ret h tk) hws hLt hDL F' hm' hc1 hc2 hc3 hc4 N'


end Mine
set_option maxRecDepth 100000 in
set_option maxHeartbeats 8000000 in
theorem PySem.Challenge.cw_ty0032_01_holds : PySem.Challenge.rw_ty0032_01.Holds := by
  exact Mine.hd (by
    k_go0
    (with_reducible rename Fr _ _ _ _ => F9)
    (with_reducible rename News _ _ _ _ => N9)
    refine wpAny_mono ?main (fun _ _ h => h) (fun _ _ h => False.elim h)
    refine' Mine.law_run (dp := 1 + claimMargin) (un := 4) (fs := some []) (gd := some []) ?a1 ?a2 ?ax ?ay ?a3 ?a4 ?a5 ?a6 ?a7 ?a8 ?a9 F9 ?b1 ?b2 ?b3 ?b4 ?b5 N9
    (case ax => assumption)
    (case ay => assumption)
    (case a3 => assumption)
    (case a4 => assumption)
    (case a6 => assumption)
    (case a7 => assumption)
    (case a1 => decide)
    (case a2 => decide)
    (case a9 => constructor <;> omega)
    (case a8 => omega)
    (case b2 => assumption)
    (case b3 => assumption)
    (case b4 => assumption)
    (case b5 => assumption)
    (case b1 => exact ⟨rfl, trivial⟩)
    intro h' tk' hk hg1 hg2
    refine ⟨?_, hg1, hg2, trivial⟩
    (try dsimp only)
    refine ⟨.inl ⟨_, .bool true, [], rfl, (fun _ => rfl), ?r1, ?r2, ?r3⟩, hk, rfl, ?r4⟩
    (case r1 => first | exact ReadsW.bool _ | exact .bool _ | constructor)
    (case r2 => wrow_post)
    (case r3 => exact fun _ => ⟨List.Pairwise.nil, fun _ h => nomatch h⟩)
    (case r4 => assumption))
