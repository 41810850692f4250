import PyProof.Rows.All
import Wide.All
import OpenK.AllK
import Wide.FinOn
import PySem.Challenge.RW_jd0033_01
open PySem PySem.W PySem.W.X PyProof.Rows
set_option Elab.async false
set_option maxRecDepth 100000
namespace Mine
def isDef : Stmt → Bool
  | .FunctionDef .. => true
  | .ClassDef .. => true
  | _ => false
abbrev prg : Program := PySem.Challenge.rw_jd0033_01.row.toRowW.prog
def viewQ : Program := { prg with main := { prg.main with body := prg.main.body.filter isDef } }
theorem hold3 {W A B C : Prop} (f : W → A → B → C) (hw : W) (h : A ∧ B) : C := f hw h.1 h.2
theorem saidQ : PySem.Challenge.rw_jd0033_01.wellSaid = true := by
  rw [PySem.W.Fast.te9446332074065402090]
  kernel_rfl
set_option hygiene false in
local macro_rules | `(tactic| o_law) => `(tactic| refine holds_law saidQ fun said => ?_)
set_option hygiene false in
local macro_rules | `(tactic| o_head $H) => `(tactic| refine hold3 (A := LeftO prg viewQ [] (fun s => xlAt viewQ [] s && recOk (RowW.records PySem.Challenge.rw_jd0033_01.row.toRowW) s) (Hook.obs $H) (Hook.val $H) 3118) (B := WalkO viewQ [] (XL viewQ []) (Hook.says $H) PySem.Challenge.rw_jd0033_01.row.toRowW _ _ fun f vs => PySem.call f vs) (fun hw hl hc => holds_open (q := viewQ) (loose := []) (Xt := fun s => xlAt viewQ [] s && recOk (RowW.records PySem.Challenge.rw_jd0033_01.row.toRowW) s) (XP := XL viewQ []) (Yf := Hook.obs $H) (Ya := Hook.val $H) (YP := Hook.says $H) (N := 3118) hl (Hook.of $H) (Hook.keeps $H) (fun s e => xl_of s (Bool.and_eq_true_iff.mp e).1) XL.keeps (by rfl) (by rfl) (by rfl) (fun s e => recFacts_of (Bool.and_eq_true_iff.mp e).2) (by rfl) (by first | assumption | decide +kernel) (by decide +kernel) ⟨rfl, rfl, rfl, rfl, rfl, by decide +kernel⟩ hw hc) ?hw ?hc)
set_option maxHeartbeats 8000000 in
open_top hd for PySem.Challenge.rw_jd0033_01
def asQ : List Addr := [2, 3, 15, 17, 18, 20, 21, 22, 29, 31, 32, 34, 35, 36, 38, 39, 41, 42, 43, 45, 46, 48, 49, 50, 52, 53, 55, 56, 57, 59, 60, 62, 63, 64, 65, 66, 67, 68, 71, 78, 80, 81, 83, 84, 85, 87, 88, 90, 91, 92, 94, 95, 97, 98, 99, 101, 102, 104, 105, 106, 108, 109, 111, 112, 113, 115, 116, 118, 119, 120, 122, 123, 125, 126, 127, 129, 130, 132, 133, 134, 136, 137, 139, 140, 141, 142, 143, 144, 145, 148, 155, 157, 158, 160, 161, 162, 164, 165, 167, 168, 169, 171, 172, 174, 175, 176, 178, 179, 181, 182, 183, 185, 186, 188, 189, 190, 192, 193, 195, 196, 197, 199, 200, 202, 203, 204, 206, 207, 209, 210, 211, 213, 214, 216, 217, 218, 219, 220, 221, 222, 225, 227, 228, 230, 231, 232, 234, 235, 237, 238, 239, 242, 243]
theorem asQ_eq (P : Params) : asQ = (hd.heap_1 P).map (·.1) := by kernel_rfl
def topRunT (tb : String → Option Builtin) (p : Program) (w : World) (n₀ : Nat) (ann : Option Value) : Nat → SharedT → Thread → Option SharedT
  | 0, _, _ => none
  | n + 1, s, t => match through t with
    | true => some s
    | false => match stepOk n₀ ann t with
      | false => none
      | true => match stepT (denote tb) p w s t with
        | some (s', t') => topRunT tb p w n₀ ann n s' t'
        | none => none
noncomputable def topRunQ (tb : String → Option Builtin) (p : Program) (w : World) (n₀ : Nat) (ann : Option Value) : Nat → SharedT → Thread → Option SharedT
  | 0, _, _ => none
  | n + 1, s, t => match through t with
    | true => some s
    | false => match PySem.W.Fast.tw6613529449190102663 n₀ ann t with
      | false => none
      | true => match PySem.W.Fast.tw10156331382660048174 (PySem.W.Fast.tw11892475500146522536 tb) p w s t with
        | some (s', t') => topRunQ tb p w n₀ ann n s' t'
        | none => none
theorem topRunQ_eq {tb : String → Option Builtin} {p : Program} {w : World} {n₀ : Nat} {ann : Option Value} : ∀ {n : Nat} {s : SharedT} {t : Thread}, topRunQ tb p w n₀ ann n s t = topRunT tb p w n₀ ann n s t
  | 0, _, _ => rfl
  | n + 1, s, t => by
    unfold topRunQ topRunT
    rw [← PySem.W.Fast.te6613529449190102663, ← PySem.W.Fast.te10156331382660048174, ← PySem.W.Fast.te11892475500146522536]
    cases through t with
    | true => rfl
    | false =>
      cases stepOk n₀ ann t with
      | false => rfl
      | true =>
        cases stepT (denote tb) p w s t with
        | none => rfl
        | some r => exact topRunQ_eq
theorem topRun_of {tb : String → Option Builtin} {p : Program} {w : World} {n₀ : Nat} {ann : Option Value} : ∀ {n : Nat} {s r : SharedT} {t : Thread}, topRunT tb p w n₀ ann n s t = some r → topRun tb p w n₀ ann n s.abs t = some r.abs
  | 0, _, _, _, h => by cases h
  | n + 1, s, r, t, h => by
    unfold topRunT at h
    unfold topRun
    cases he : through t with
    | true => rw [he] at h; cases h; rfl
    | false =>
      rw [he] at h
      cases hk : stepOk n₀ ann t with
      | false => rw [hk] at h; cases h
      | true =>
        rw [hk] at h
        cases hs : stepT (denote tb) p w s t with
        | none => rw [hs] at h; cases h
        | some r => obtain ⟨s₂, t₂⟩ := r; rw [hs] at h; rw [stepT_spec hs]; exact topRun_of h
noncomputable def bootT (P : Params) : BT := (.node (boot_o_0 P) (.node (boot_o_1 P) (.node (boot_o_3 P) (.node (boot_o_7 P) .nil .nil) .nil) (.node (boot_o_5 P) (.node (boot_o_9 P) .nil .nil) .nil)) (.node (boot_o_2 P) (.node (boot_o_4 P) (.node (boot_o_8 P) .nil .nil) .nil) (.node (boot_o_6 P) (.node (boot_o_10 P) .nil .nil) .nil)))
theorem bootT_abs (P : Params) : absHeap (bootT P) 11 {} = boot_heap P := by kernel_rfl
theorem left_tree {p q : Program} {loose : List Str} {Xt : Shared → Bool} {α : Type} {Yf : Shared → α} {Ya : World → α} {N : Nat} 
    (open_ : ∀ w : World, (fencedOpening treeTable p w N).map (fun s => (s.heap, s.gens, s.drawn, s.toks)) = some (boot_heap w.params, Array.mk [], boot_drawn, boot_toks))
    (size : ∀ P : Params, (boot_heap P).isNs mainGlobals = true)
    (run : ∀ (w : World) (os : OsState), (topRunQ treeTable p w 11 ((boot_heap w.params).nsMap mainGlobals "__annotations__") N ⟨bootT w.params, 11, {}, #[], boot_drawn, boot_toks, os⟩ (topStub p)).map (fun r =>
      ((staticsOk (importedModules p.main.body) (boot_heap w.params) r.abs.heap && namesBound p r.abs.heap && gensDone r.abs && laidKept (boot_heap w.params) r.abs.heap), openSeen q loose (importedModules p.main.body) Xt true r.abs, Yf r.abs)) = some (true, openGood q loose, Ya w)) : LeftO p q loose Xt Yf Ya N := fun w => by
  obtain ⟨⟨h, gs, d, k, os⟩, e, e'⟩ := Option.map_eq_some_iff.mp (open_ w)
  obtain ⟨rfl, rfl, rfl, rfl⟩ : h = boot_heap w.params ∧ gs = Array.mk [] ∧ d = boot_drawn ∧ k = boot_toks := by simpa using e'
  obtain ⟨r0, hr, hl⟩ := Option.map_eq_some_iff.mp (run w os)
  rw [topRunQ_eq] at hr
  have hrun := topRun_of hr
  have hs : (SharedT.mk (bootT w.params) 11 {} #[] boot_drawn boot_toks os).abs = ⟨boot_heap w.params, Array.mk [], boot_drawn, boot_toks, os⟩ := by
    unfold SharedT.abs
    rw [bootT_abs]
  rw [hs] at hrun
  obtain ⟨l1, l2, l3⟩ : _ ∧ _ ∧ _ := by simpa only [Prod.mk.injEq] using hl
  have z1 := size w.params
  have hn : (boot_heap w.params).objs.size = 11 := rfl
  have t : topFrom treeTable p w N ⟨boot_heap w.params, Array.mk [], boot_drawn, boot_toks, os⟩ = some r0.abs := by
    unfold topFrom
    dsimp only
    rw [z1, hn, hrun]
    show (match staticsOk (importedModules p.main.body) (boot_heap w.params) r0.abs.heap && namesBound p r0.abs.heap && gensDone r0.abs && laidKept (boot_heap w.params) r0.abs.heap with | true => _ | false => _) = _
    rw [l1]
  unfold openEnds
  rw [e]
  show (topFrom treeTable p w N _).map _ = _
  rw [t]
  exact congrArg some (Prod.ext l2 l3)
theorem open_boot (w : World) : (fencedOpening treeTable prg w 3118).map (fun s => (s.heap, s.gens, s.drawn, s.toks)) = some (boot_heap w.params, Array.mk [], boot_drawn, boot_toks) :=
  boot_open (by kernel_rfl) (by decide) (fun s => by kernel_rfl) w
theorem boot_size (P : Params) : (boot_heap P).isNs mainGlobals = true := by kernel_rfl
theorem leftQ : LeftO prg viewQ [] (fun s => xlAt viewQ [] s && recOk (RowW.records PySem.Challenge.rw_jd0033_01.row.toRowW) s) (kHook hd.heap_1 asQ asQ_eq).obs (kHook hd.heap_1 asQ asQ_eq).val 3118 :=
  left_tree open_boot boot_size fun w os => by
    rw [PySem.W.Fast.te14364793385576792824, PySem.W.Fast.te4187177175401517315]
    kernel_rfl
end Mine
namespace Mine
def lawDef : Option Stmt := PySem.Challenge.pw_jd0033_01.main.body.getLast?
def lawScope : Scope := match lawDef with | some (.FunctionDef _ _ _ _ _ _ sc _ _ _) => sc | _ => default
def lawBody : List Stmt := match lawDef with | some (.FunctionDef _ _ b _ _ _ _ _ _ _) => b | _ => []
abbrev lawEnv (L fa : Addr) (cd : Value) : Env := envOfC (Str.ofString "law") lawScope L fa cd
abbrev lawA (L fa : Addr) (cd : Value) : Around := callerA.deeper (lawEnv L fa cd)
abbrev ent (w : World) (name : String) (t : Tok) (v : Value) : DictEntry := ⟨PyData.keyHash w.params (Str.ofString name), .str (Str.ofString name) t, v⟩
abbrev tupOf (vs : List Value) (n : Nat) : Obj := { cls := .type "tuple", data := .seq vs.toArray n }
abbrev imD (w : World) (t1 t2 t3 : Tok) (lk : Addr) (auto : Int) : Obj := dictOf [ent w "_ReplLockManagerImpl__locks" t1 (.ref lk), ent w "_ReplLockManagerImpl__autoUnlockTime" t2 (.int auto t3)] 2
abbrev mdD (w : World) (t : Nat → Tok) (im : Addr) (nm : Str) (auto : Int) (g : Addr) (last : Int) (sn : Addr) : Obj :=
  dictOf [ent w "_ReplLockManager__lockImpl" (t 0) (.ref im), ent w "_ReplLockManager__selfID" (t 1) (.str nm (t 2)), ent w "_ReplLockManager__autoUnlockTime" (t 3) (.int auto (t 4)),
    ent w "_ReplLockManager__given" (t 5) (.ref g), ent w "_ReplLockManager__destroying" (t 6) (.bool false), ent w "_ReplLockManager__lastProlongateTime" (t 7) (.int last (t 8)), ent w "sent" (t 9) (.ref sn)] 7
abbrev gD (w : World) (t : Nat → Tok) (a : Nat → Addr) (now : Int) : Obj :=
  dictOf [ent w "now" (t 0) (.int now (t 1)), ent w "drawn" (t 2) (.ref (a 0)), ent w "applied" (t 3) (.ref (a 1)), ent w "told" (t 4) (.ref (a 2)), ent w "dumped" (t 5) (.ref (a 3)),
    ent w "length" (t 6) (.int 1 (t 7)), ent w "codeVersion" (t 8) (.int 0 (t 9))] 7

abbrev Tab := Str → Option (Str × Int)
def TabRel (nx : List (Addr × Obj)) (kvs : List (Str × Value)) (f : Tab) : Prop :=
  ∀ l, match f l with
    | none => PySem.valueAt kvs l = none
    | some (c, t) => ∃ a n t1 t2, PySem.valueAt kvs l = some (.ref a) ∧ (a, tupOf [.str c t1, .int t t2] n) ∈ nx
def acqOk (f : Tab) (l c : Str) (t auto : Int) : Bool := match f l with
  | none => true
  | some (c', t') => decide (auto < t - t') || decide (c' = c)
def acqTab (f : Tab) (l c : Str) (t auto : Int) : Tab := if acqOk f l c t auto then (fun x => if x = l then some (c, t) else f x) else f
def relTab (f : Tab) (l c : Str) : Tab := match f l with
  | some (c', _) => if c' = c then (fun x => if x = l then none else f x) else f
  | none => f
def proOne (c : Str) (t auto : Int) : Option (Str × Int) → Option (Str × Int)
  | none => none
  | some (c', t') => if auto < t - t' then none else if c' = c then some (c, t) else some (c', t')
def proTab (f : Tab) (c : Str) (t auto : Int) : Tab := fun x => proOne c t auto (f x)
def hasTab (f : Tab) (l c : Str) (now auto : Int) : Bool := match f l with
  | some (c', t') => decide (c' = c) && decide (now - t' < auto)
  | none => false
theorem TabRel.none {nx kvs f l} (h : TabRel nx kvs f) (e : f l = none) : PySem.valueAt kvs l = none := by have := h l; rw [e] at this; exact this
theorem TabRel.some {nx kvs f l c t} (h : TabRel nx kvs f) (e : f l = some (c, t)) : ∃ a n t1 t2, PySem.valueAt kvs l = some (.ref a) ∧ (a, tupOf [.str c t1, .int t t2] n) ∈ nx := by have := h l; rw [e] at this; exact this
theorem TabRel.mono {nx nx' kvs f} (h : TabRel nx kvs f) (hs : ∀ p ∈ nx, p.2.cls = .type "tuple" → p ∈ nx') : TabRel nx' kvs f := by
  intro l
  have := h l
  cases e : f l with
  | none => rw [e] at this; exact this
  | some p => rw [e] at this; obtain ⟨a, n, t1, t2, q, r⟩ := this; exact ⟨a, n, t1, t2, q, hs _ r rfl⟩
theorem news_sub {h₀ h : Heap} {L : Addr} {l l' : List (Addr × Obj)} (N : News h₀ L h l) (hs : ∀ p ∈ l', p ∈ l) : News h₀ L h l' := fun p hp => N p (hs p hp)
theorem news_ne {h₀ h : Heap} {L : Addr} {l : List (Addr × Obj)} (N : News h₀ L h l) {a b : Addr} {o o' : Obj} (ha : (a, o) ∈ l) (hb : (b, o') ∈ l) (hn : o ≠ o') : a ≠ b := by
  intro e; subst e
  have h1 := (N _ ha).1
  have h2 := (N _ hb).1
  rw [h1] at h2
  exact hn (Option.some.inj h2)
theorem ne_cls {o o' : Obj} (h : o.cls ≠ o'.cls) : o ≠ o' := fun e => h (congrArg Obj.cls e)
theorem q_bool {Q : Value → Shared → Prop} {a b : Bool} {s : Shared} (h : Q (.bool a) s) (e : a = b) : Q (.bool b) s := e ▸ h
end Mine
namespace Mine
section
variable {K : Type} [DecidableEq K]
theorem valueAt_cons (p : K × Value) (r : List (K × Value)) (k : K) : PySem.valueAt (p :: r) k = if p.1 = k then some p.2 else PySem.valueAt r k := by
  by_cases e : p.1 = k
  · simp [PySem.valueAt, List.find?, e]
  · simp [PySem.valueAt, List.find?, e]
theorem valueAt_map_if (kvs : List (K × Value)) (k : K) (v : Value) (x : K) :
    PySem.valueAt (kvs.map fun kv => if kv.1 = k then (kv.1, v) else kv) x = if x = k then (if (PySem.valueAt kvs k).isSome then some v else none) else PySem.valueAt kvs x := by
  induction kvs with
  | nil => simp [PySem.valueAt]
  | cons p r ih =>
    rw [List.map_cons, valueAt_cons, valueAt_cons, valueAt_cons, ih]
    by_cases e : p.1 = k
    · simp only [if_pos e]
      by_cases e2 : x = k
      · subst e2; simp [e]
      · have e3 : ¬ p.1 = x := fun q => e2 (q.symm.trans e)
        simp [e2, e3]
    · simp only [if_neg e]
      by_cases e2 : x = k
      · subst e2; simp [e]
      · simp [e2]
theorem valueAt_append (kvs r : List (K × Value)) (x : K) : PySem.valueAt (kvs ++ r) x = (PySem.valueAt kvs x).or (PySem.valueAt r x) := by
  induction kvs with
  | nil => simp [PySem.valueAt]
  | cons p t ih =>
    rw [List.cons_append, valueAt_cons, valueAt_cons, ih]
    by_cases e : p.1 = x <;> simp [e]
theorem valueAt_stored (kvs : List (K × Value)) (k : K) (v : Value) (x : K) : PySem.valueAt (PySem.stored kvs k v) x = if x = k then some v else PySem.valueAt kvs x := by
  cases h : PySem.valueAt kvs k with
  | none =>
    rw [stored_absent h, valueAt_append, valueAt_cons]
    by_cases e : x = k
    · subst e; simp [h]
    · have e' : ¬ k = x := fun q => e q.symm
      simp [e, e', PySem.valueAt]
  | some u =>
    have ha : (kvs.any fun kv => kv.1 = k) = true := by rw [← valueAt_isSome_eq_any, h]; rfl
    unfold PySem.stored
    rw [ha, if_pos rfl, valueAt_map_if, h]
    simp
theorem valueAt_without (kvs : List (K × Value)) (k x : K) : PySem.valueAt (PySem.without kvs k) x = if x = k then none else PySem.valueAt kvs x := by
  unfold PySem.without
  induction kvs with
  | nil => simp [PySem.valueAt]
  | cons p r ih =>
    rw [List.filter_cons, valueAt_cons]
    by_cases e : p.1 = k
    · simp only [e, ne_eq, not_true_eq_false, decide_false, Bool.false_eq_true, if_false, ih]
      by_cases e2 : x = k
      · simp [e2]
      · have e3 : ¬ k = x := fun q => e2 q.symm
        simp [e2, e3]
    · simp only [ne_eq, e, not_false_eq_true, decide_true, if_true, valueAt_cons, ih]
      by_cases e2 : p.1 = x
      · have e3 : ¬ x = k := fun q => e (e2.trans q)
        simp [e2, e3]
      · simp [e2]
theorem mem_stored {kvs : List (K × Value)} {k : K} {v : Value} {P : K → Prop} (h : ∀ p ∈ kvs, P p.1) (hk : P k) : ∀ p ∈ PySem.stored kvs k v, P p.1 := by
  unfold PySem.stored
  split
  · intro p hp
    obtain ⟨q, hq, rfl⟩ := List.mem_map.mp hp
    split
    · exact h q hq
    · exact h q hq
  · intro p hp
    rcases List.mem_append.mp hp with hp | hp
    · exact h p hp
    · rw [List.mem_singleton.mp hp]; exact hk
theorem mem_without {kvs : List (K × Value)} {k : K} {P : K → Prop} (h : ∀ p ∈ kvs, P p.1) : ∀ p ∈ PySem.without kvs k, P p.1 := fun p hp => h p (List.mem_filter.mp hp).1
theorem valueAt_some_mem {kvs : List (K × Value)} {k : K} {v : Value} (h : PySem.valueAt kvs k = some v) : ∃ p ∈ kvs, p.1 = k := by
  induction kvs with
  | nil => simp [PySem.valueAt] at h
  | cons p r ih =>
    rw [valueAt_cons] at h
    by_cases e : p.1 = k
    · exact ⟨p, .head _, e⟩
    · rw [if_neg e] at h
      obtain ⟨q, hq, r⟩ := ih h
      exact ⟨q, .tail _ hq, r⟩
end
def lX : Str := Str.ofString "x"
def lY : Str := Str.ofString "y"
def isLock (l : Str) : Prop := l = lX ∨ l = lY
def DictTab (w : World) (nx : List (Addr × Obj)) (o : Obj) (f : Tab) : Prop :=
  ∃ kvs, o.IsDictOf (PySem.strKind prg w) kvs ∧ TabRel nx kvs f ∧ ∀ p ∈ kvs, isLock p.1
theorem nodup_two {α : Type} {a b : α} : ∀ {l : List α}, l.Nodup → (∀ x ∈ l, x = a ∨ x = b) → l.length ≤ 2
  | [], _, _ => by simp
  | [_], _, _ => by simp
  | [_, _], _, _ => by simp
  | x :: y :: z :: r, hn, h => by
    exfalso
    simp only [List.nodup_cons, List.mem_cons, not_or] at hn
    obtain ⟨⟨h1, h2, -⟩, ⟨h3, -⟩, -⟩ := hn
    have a1 := h x (by simp)
    have a2 := h y (by simp)
    have a3 := h z (by simp)
    rcases a1 with a1 | a1 <;> rcases a2 with a2 | a2 <;> rcases a3 with a3 | a3 <;> simp_all
theorem dict_len {w : World} {o : Obj} {kvs : List (Str × Value)} (h : o.IsDictOf (PySem.strKind prg w) kvs) (hk : ∀ p ∈ kvs, isLock p.1) : kvs.length ≤ 2 := by
  obtain ⟨_, _, _, _, _, _, hn⟩ := h
  rw [← List.length_map (f := (·.1))]
  refine nodup_two (a := lX) (b := lY) hn fun x hx => ?_
  obtain ⟨p, hp, rfl⟩ := List.mem_map.mp hx
  exact hk p hp
theorem dict_line {n : Nat} (h : n ≤ 2) : n ≤ sizeLine := by rw [sizeLine_eq]; omega
theorem DictTab.mono {w nx nx' o f} (h : DictTab w nx o f) (hs : ∀ p ∈ nx, p.2.cls = .type "tuple" → p ∈ nx') : DictTab w nx' o f := by
  obtain ⟨kvs, a, b, c⟩ := h
  exact ⟨kvs, a, b.mono hs, c⟩
theorem DictTab.key {w nx o f l p} (h : DictTab w nx o f) (e : f l = some p) : isLock l := by
  obtain ⟨kvs, a, b, c⟩ := h
  obtain ⟨cc, t⟩ := p
  obtain ⟨x, n, t1, t2, hv, -⟩ := b.some e
  obtain ⟨q, hq, rfl⟩ := valueAt_some_mem hv
  exact c q hq
theorem tab_store {nx : List (Addr × Obj)} {kvs : List (Str × Value)} {f : Tab} {l c : Str} {t : Int} {a : Addr} {n : Nat} {t1 t2 : Tok} (h : TabRel nx kvs f) (ha : (a, tupOf [.str c t1, .int t t2] n) ∈ nx) :
    TabRel nx (PySem.stored kvs l (.ref a)) (fun x => if x = l then some (c, t) else f x) := by
  intro x
  rw [valueAt_stored]
  by_cases e : x = l
  · simp only [if_pos e]; exact ⟨a, n, t1, t2, rfl, ha⟩
  · simp only [if_neg e]; exact h x
theorem tab_del {nx : List (Addr × Obj)} {kvs : List (Str × Value)} {f : Tab} {l : Str} (h : TabRel nx kvs f) :
    TabRel nx (PySem.without kvs l) (fun x => if x = l then none else f x) := by
  intro x
  rw [valueAt_without]
  by_cases e : x = l
  · simp only [if_pos e]
  · simp only [if_neg e]; exact h x
section
variable {prog : Program} {w : World} {KK : Type} [DecidableEq KK] {knd : KeyKind prog w KK} {A : Around} {E : Value → Shared → Prop} {s : Shared} {h₀ : Heap} {L d : Addr} {m : Str → Option Value}
  {news : List (Addr × Obj)} {g : Obj → List (Addr × Obj)} {kvs : List (KK × Value)} {o : Obj} {k : KK} {key : Value}
theorem my_del {Q : Unit → Shared → Prop} (hkey : knd.is k key = true) (F : Fr h₀ L s.heap m) (N : News h₀ L s.heap news) (U : UpdF d o news g) (hd : o.IsDictOf knd kvs) (hsz : kvs.length ≤ sizeLine) (hl : (PySem.valueAt kvs k).isSome = true)
    (h : ∀ h' o', Fr h₀ L h' m → News h₀ L h' (g o') → o'.IsDictOf knd (PySem.without kvs k) → Q () { s with heap := h', toks := s.toks + 1 }) :
    wpAny (model prog w) A (delItem (.ref d) key) Q E s := by
  obtain ⟨own, rest, rfl, hg, h1, h2⟩ := U.split
  have hm := N (d, o) (List.mem_append_right _ (.head _))
  have hD : s.heap.DictOf knd d kvs := Heap.dictOf_iff.mpr ⟨o, hm.1, hd⟩
  unfold delItem
  try with_reducible refine wpAny_holding ?_
  refine wpAny_bind (wpAny_sequenceKey hD.typeIs (by decide) ?_)
  refine wpAny_bind (wpAny_callSpecial?_slot (name := Str.ofString "__delitem__") hD.typeIs PySem.F.slot_dict_delitem
    (call_meetsIn PySem.F.slot_dict_delitem hD.typeIs PySem.F.entry_dict_delitem (PySem.F.args_dict_delitem_2 _ _) (meets_dict_delitem_pairs knd d hkey) ⟨kvs, hD, hsz, hl, fun h' hmm hs => ?_⟩))
  obtain ⟨o', ho', hd'⟩ := Heap.dictOf_iff.mp hmm
  exact wpAny_pure (h h' o' (F.change hs hm.2.1 hm.2.2) (hg o' ▸ N.setIn h1 h2 hs ho') hd')
theorem my_pop {v : Value} {Q : Value → Shared → Prop} (hkey : knd.is k key = true) (hpart : (keyPart key).isSome = true) (F : Fr h₀ L s.heap m) (N : News h₀ L s.heap news) (U : UpdF d o news g) (hd : o.IsDictOf knd kvs) (hsz : kvs.length ≤ sizeLine) (hl : PySem.valueAt kvs k = some v)
    (h : ∀ h' o', Fr h₀ L h' m → News h₀ L h' (g o') → o'.IsDictOf knd (PySem.without kvs k) → Q v { s with heap := h', toks := s.toks + 1 }) :
    wpAny (model prog w) A (call (.builtin "dict.pop") [.ref d, key]) Q E s := by
  obtain ⟨own, rest, rfl, hg, h1, h2⟩ := U.split
  have hm := N (d, o) (List.mem_append_right _ (.head _))
  have hD : s.heap.DictOf knd d kvs := Heap.dictOf_iff.mpr ⟨o, hm.1, hd⟩
  refine call_meetsIn PySem.F.slot_dict_pop hD.typeIs PySem.F.entry_dict_pop (PySem.F.args_dict_pop_2 _ _) (meets_dict_pop_there knd d hkey [] (.inl rfl) hpart) ⟨kvs, v, hD, hsz, hl, fun h' hmm hs => ?_⟩
  obtain ⟨o', ho', hd'⟩ := Heap.dictOf_iff.mp hmm
  exact h h' o' (F.change hs hm.2.1 hm.2.2) (hg o' ▸ N.setIn h1 h2 hs ho') hd'
end
theorem dict_cls {w : World} {o : Obj} {kvs : List (Str × Value)} (h : o.IsDictOf (PySem.strKind prg w) kvs) : o.cls = .type "dict" := by obtain ⟨_, _, hx, _⟩ := h; exact hx.1
section
variable {w : World} {f : Tab} {l c c' : Str} {t t' auto : Int} {kvs : List (Str × Value)} {rest : List (Addr × Obj)} {o' : Obj}
theorem acqOk_none (e : f l = none) : acqOk f l c t auto = true := by simp [acqOk, e]
theorem acqOk_exp (e : f l = some (c', t')) (h : auto < t - t') : acqOk f l c t auto = true := by simp [acqOk, e, h]
theorem acqOk_same (e : f l = some (c', t')) (h : (c' == c) = true) : acqOk f l c t auto = true := by simp [acqOk, e, beq_iff_eq.mp h]
theorem acqOk_no (e : f l = some (c', t')) (h : ¬ auto < t - t') (h2 : (c' == c) = false) : acqOk f l c t auto = false := by
  have := beq_eq_false_iff_ne.mp h2
  simp only [acqOk, e, decide_eq_false h, decide_eq_false this, Bool.or_self]
theorem acqTab_no (h : acqOk f l c t auto = false) : acqTab f l c t auto = f := by simp [acqTab, h]
theorem dt_store {D : Addr} {n : Nat} {a b : Tok} (hd' : o'.IsDictOf (PySem.strKind prg w) (PySem.stored kvs l (.ref D))) (hT : TabRel rest kvs f) (hkeys : ∀ p ∈ kvs, isLock p.1) (hl : isLock l) (hok : acqOk f l c t auto = true) :
    DictTab w ((D, tupOf [.str c a, .int t b] n) :: rest) o' (acqTab f l c t auto) := by
  refine ⟨_, hd', ?_, mem_stored (P := isLock) hkeys hl⟩
  rw [acqTab, if_pos hok]
  exact tab_store (hT.mono fun p hp _ => List.mem_cons_of_mem _ hp) (List.mem_cons_self ..)
theorem relTab_none (e : f l = none) : relTab f l c = f := by simp [relTab, e]
theorem relTab_other (e : f l = some (c', t')) (h2 : (c' == c) = false) : relTab f l c = f := by
  have := beq_eq_false_iff_ne.mp h2
  simp [relTab, e, this]
theorem dt_rel (hd' : o'.IsDictOf (PySem.strKind prg w) (PySem.without kvs l)) (hT : TabRel rest kvs f) (hkeys : ∀ p ∈ kvs, isLock p.1) (e : f l = some (c', t')) (h : (c' == c) = true) : DictTab w rest o' (relTab f l c) := by
  refine ⟨_, hd', ?_, mem_without (P := isLock) hkeys⟩
  have : relTab f l c = fun x => if x = l then none else f x := by simp [relTab, e, beq_iff_eq.mp h]
  rw [this]
  exact tab_del hT
theorem sub_skip1 {α : Type} {x y : α} {r : List α} : ∀ p ∈ x :: r, p ∈ x :: y :: r := fun p hp => by
  rcases List.mem_cons.mp hp with rfl | hp
  · exact .head _
  · exact .tail _ (.tail _ hp)
theorem sub_skip0 {α : Type} {y : α} {r : List α} : ∀ p ∈ r, p ∈ y :: r := fun _ hp => .tail _ hp
theorem one_tuple {a : Addr} {vs : List Value} {n : Nat} : ∀ p ∈ [((a, tupOf vs n) : Addr × Obj)], p.2.cls = .type "tuple" := fun p hp => by rw [List.mem_singleton.mp hp]
theorem no_tuple : ∀ p ∈ ([] : List (Addr × Obj)), p.2.cls = .type "tuple" := fun _ hp => nomatch hp
end
end Mine
namespace Mine
local macro_rules | `(tactic| walk_at "getMethod ref") => `(tactic| (k_here; (with_reducible show wpAny _ _ (getMethod (Value.ref _) (Str.ofString "get") _) _ _ _); k_dflt (refine kdg_method (knd := PySem.strKind _ _) (by k_asm) (by k_mem) (by k_asm) ?_)))
local macro_rules | `(tactic| walk_at "call builtin:dict.get") => `(tactic| (k_here; k_dflt (refine kdg_get2 (knd := PySem.strKind _ _) (by k_asm) (by k_mem) (by k_asm) (by k_asm) (strKind_is _ _ _ _) _ (by assumption) ?_); (try dsimp only [Option.getD])))

section
variable {w : World} {h₀ : Heap} {L fa : Addr} {cd : Value} {mg mb : Str → Option Value} {mean : ExcName → Option Value} {E : Value → Shared → Prop} {Q : Value → Shared → Prop} {s : Shared} {m : Str → Option Value} {rest : List (Addr × Obj)}
  {mgr md im di lk g gd sn : Addr} {ol : Obj} {t tg : Nat → Tok} {ag : Nat → Addr} {t1 t2 t3 tl : Tok} {auto now last : Int} {nm l : Str} {f : Tab}
variable (KX : (Mine.hd.heap_1 w.params).In h₀) (T : Top viewQ (looseW viewQ []) mean mg mb h₀) (B : Below callerA h₀ [] h₀) (F : Fr h₀ L s.heap m)
include KX T B F
set_option maxHeartbeats 4000000 in
theorem c_isAcq
    (N : News h₀ L s.heap ((mgr, instObj 143 md) :: (md, mdD w t im nm auto g last sn) :: (im, instObj 66 di) :: (di, imD w t1 t2 t3 lk auto) :: (lk, ol) :: (g, instObj 220 gd) :: (gd, gD w tg ag now) :: rest))
    (hol : DictTab w rest ol f) (lo : (lk == sysModules) = false)
    (hk : ∀ h' tk, Fr h₀ L h' m → News h₀ L h' ((mgr, instObj 143 md) :: (md, mdD w t im nm auto g last sn) :: (im, instObj 66 di) :: (di, imD w t1 t2 t3 lk auto) :: (lk, ol) :: (g, instObj 220 gd) :: (gd, gD w tg ag now) :: rest) → Q (.bool (hasTab f l nm now auto)) { s with heap := h', toks := tk }) :
    wpAny (model prg w) (lawA L fa cd) (call (.ref 133) [.ref mgr, .str l tl] []) Q E s := by
  obtain ⟨heap, gens, drawn, toks, os⟩ := s
  obtain ⟨kvs, hd, hT, hkeys⟩ := hol
  dsimp only at F N hk ⊢
  unfold prg at *; revert KX; k_fill; intro KX; w_top off
  cases e : f l with
  | none =>
    have hv := hT.none e
    have hq : hasTab f l nm now auto = false := by simp [hasTab, e]
    rw [hq] at hk
    k_steps
    all_goals exact hk _ _ (by assumption) (by assumption)
  | some p =>
    obtain ⟨c', t'⟩ := p
    obtain ⟨a, n, u1, u2, hv, hm⟩ := hT.some e
    have hq : hasTab f l nm now auto = (decide (c' = nm) && decide (now - t' < auto)) := by simp [hasTab, e]
    rw [hq] at hk
    have N2 : News h₀ L heap ((a, tupOf [.str c' u1, .int t' u2] n) :: (mgr, instObj 143 md) :: (md, mdD w t im nm auto g last sn) :: (im, instObj 66 di) :: (di, imD w t1 t2 t3 lk auto) :: (lk, ol) :: (g, instObj 220 gd) :: (gd, gD w tg ag now) :: rest) := 
      news_sub N (fun p hp => by rcases List.mem_cons.mp hp with rfl | hp; (· simp [hm]); (· exact hp))
    clear N
    k_steps
    all_goals (refine q_bool (hk _ _ (by assumption) (news_sub (by assumption) (fun p hp => List.mem_cons_of_mem _ hp))) ?_)
    all_goals first
      | (have h1 := beq_iff_eq.mp (by assumption : (c' == nm) = true); simp [h1, (by assumption : now - t' < auto)]; done)
      | (have h1 := beq_eq_false_iff_ne.mp (by assumption : (c' == nm) = false); simp [h1]; done)
      | (have h1 := (by assumption : ¬ (now - t' < auto)); simp [h1]; omega)
      | (have h1 := (by assumption : ¬ (now - t' < auto)); simp [h1]; done)
end
end Mine
namespace Mine
section
variable {w : World} {h₀ : Heap} {L fa : Addr} {cd : Value} {mg mb : Str → Option Value} {mean : ExcName → Option Value} {E : Value → Shared → Prop} {Q : Value → Shared → Prop} {s : Shared} {m : Str → Option Value} {rest : List (Addr × Obj)}
  {mgr md im di lk g gd sn : Addr} {t tg : Nat → Tok} {ag : Nat → Addr} {tl : Tok} {auto now last : Int} {nm l : Str} {vs : List Value} {n : Nat}
variable (KX : (Mine.hd.heap_1 w.params).In h₀) (T : Top viewQ (looseW viewQ []) mean mg mb h₀) (B : Below callerA h₀ [] h₀) (F : Fr h₀ L s.heap m)
include KX T B F
set_option maxHeartbeats 4000000 in
theorem c_try
    (N : News h₀ L s.heap ((mgr, instObj 143 md) :: (md, mdD w t im nm auto g last sn) :: (g, instObj 220 gd) :: (gd, gD w tg ag now) :: (sn, listOf vs.toArray n) :: rest))
    (hoff : OwnOff rest [sn]) (hlen : vs.length ≤ 1000)
    (hk : ∀ h' tk a k n' x, Fr h₀ L h' m → News h₀ L h' ((a, tupOf [.str (Str.ofString "acquire") x, .str l tl, .str nm (t 2), .int now (tg 1)] k) :: (mgr, instObj 143 md) :: (md, mdD w t im nm auto g last sn) :: (g, instObj 220 gd) :: (gd, gD w tg ag now) :: (sn, listOf (vs.toArray.push (Value.ref a)) n') :: rest) → Q (.int now (tg 1)) { s with heap := h', toks := tk }) :
    wpAny (model prg w) (lawA L fa cd) (call (.ref 112) [.ref mgr, .str l tl] []) Q E s := by
  obtain ⟨heap, gens, drawn, toks, os⟩ := s
  have hMk := kstMark
  have e1 : @Ne Nat mgr sn := news_ne N (by k_mem) (by k_mem) (ne_cls (by simp))
  have e2 : @Ne Nat md sn := news_ne N (by k_mem) (by k_mem) (ne_cls (by simp))
  have e3 : @Ne Nat g sn := news_ne N (by k_mem) (by k_mem) (ne_cls (by simp))
  have e4 : @Ne Nat gd sn := news_ne N (by k_mem) (by k_mem) (ne_cls (by simp))
  dsimp only at F N hk ⊢
  unfold prg at *; revert KX; k_fill; intro KX; w_top off
  k_steps
  all_goals exact hk _ _ _ _ _ _ (by assumption) (by assumption)
set_option maxHeartbeats 4000000 in
theorem c_rel
    (N : News h₀ L s.heap ((mgr, instObj 143 md) :: (md, mdD w t im nm auto g last sn) :: (sn, listOf vs.toArray n) :: rest))
    (hoff : OwnOff rest [sn]) (hlen : vs.length ≤ 1000)
    (hk : ∀ h' tk a k n' x, Fr h₀ L h' m → News h₀ L h' ((a, tupOf [.str (Str.ofString "release") x, .str l tl, .str nm (t 2)] k) :: (mgr, instObj 143 md) :: (md, mdD w t im nm auto g last sn) :: (sn, listOf (vs.toArray.push (Value.ref a)) n') :: rest) → Q .none { s with heap := h', toks := tk }) :
    wpAny (model prg w) (lawA L fa cd) (call (.ref 140) [.ref mgr, .str l tl] []) Q E s := by
  obtain ⟨heap, gens, drawn, toks, os⟩ := s
  have hMk := kstMark
  have e1 : @Ne Nat mgr sn := news_ne N (by k_mem) (by k_mem) (ne_cls (by simp))
  have e2 : @Ne Nat md sn := news_ne N (by k_mem) (by k_mem) (ne_cls (by simp))
  dsimp only at F N hk ⊢
  unfold prg at *; revert KX; k_fill; intro KX; w_top off
  k_steps
  all_goals exact hk _ _ _ _ _ _ (by assumption) (by assumption)
set_option maxHeartbeats 4000000 in
theorem c_auto {ld : Value} (hld : ld = .none ∨ ∃ x y, ld = .str x y)
    (N : News h₀ L s.heap ((mgr, instObj 143 md) :: (md, mdD w t im nm auto g last sn) :: (g, instObj 220 gd) :: (gd, gD w tg ag now) :: (sn, listOf vs.toArray n) :: rest))
    (hoff : OwnOff rest [sn]) (hoff2 : OwnOff rest [md]) (hne : @Ne Nat md gd) (hlen : vs.length ≤ 1000)
    (hk1 : (4 * (now - last) < auto ∨ ld = .none) → ∀ h' tk, Fr h₀ L h' m → News h₀ L h' ((mgr, instObj 143 md) :: (md, mdD w t im nm auto g last sn) :: (g, instObj 220 gd) :: (gd, gD w tg ag now) :: (sn, listOf vs.toArray n) :: rest) → Q .none { s with heap := h', toks := tk })
    (hk : ¬ (4 * (now - last) < auto) → ld ≠ .none → ∀ h' tk a k n' x t' , Fr h₀ L h' m → News h₀ L h' ((a, tupOf [.str (Str.ofString "prolongate") x, .str nm (t' 2), .int now (tg 1)] k) :: (mgr, instObj 143 md) :: (md, mdD w t' im nm auto g now sn) :: (g, instObj 220 gd) :: (gd, gD w tg ag now) :: (sn, listOf (vs.toArray.push (Value.ref a)) n') :: rest) → Q .none { s with heap := h', toks := tk }) :
    wpAny (model prg w) (lawA L fa cd) (call (.ref 105) [.ref mgr, ld] []) Q E s := by
  obtain ⟨heap, gens, drawn, toks, os⟩ := s
  have hMk := kstMark
  have e1 : @Ne Nat mgr sn := news_ne N (by k_mem) (by k_mem) (ne_cls (by simp))
  have e2 : @Ne Nat md sn := news_ne N (by k_mem) (by k_mem) (ne_cls (by simp))
  have e3 : @Ne Nat g sn := news_ne N (by k_mem) (by k_mem) (ne_cls (by simp))
  have e4 : @Ne Nat gd sn := news_ne N (by k_mem) (by k_mem) (ne_cls (by simp))
  have e5 : @Ne Nat mgr md := news_ne N (by k_mem) (by k_mem) (ne_cls (by simp))
  have e6 : @Ne Nat g md := news_ne N (by k_mem) (by k_mem) (ne_cls (by simp))
  dsimp only at F N hk hk1 ⊢
  unfold prg at *; revert KX; k_fill; intro KX; w_top off
  rcases hld with rfl | ⟨x, y, rfl⟩
  · k_steps
    all_goals first
      | exact hk1 (.inl (by assumption)) _ _ (by assumption) (by assumption)
      | exact hk1 (.inr rfl) _ _ (by assumption) (by assumption)
      | exact hk (by assumption) (by simp) _ _ _ _ _ _ (fun i => if i = 8 then tg 1 else t i) (by assumption) (by assumption)
  · k_steps
    all_goals first
      | exact hk1 (.inl (by assumption)) _ _ (by assumption) (by assumption)
      | exact hk1 (.inr rfl) _ _ (by assumption) (by assumption)
      | exact hk (by assumption) (by simp) _ _ _ _ _ _ (fun i => if i = 8 then tg 1 else t i) (by assumption) (by assumption)
set_option maxHeartbeats 4000000 in
theorem c_acquired {t0 : Int} {tt : Tok} {res : Bool}
    (N : News h₀ L s.heap ((mgr, instObj 143 md) :: (md, mdD w t im nm auto g last sn) :: (g, instObj 220 gd) :: (gd, gD w tg ag now) :: (sn, listOf vs.toArray n) :: rest))
    (hoff : OwnOff rest [sn]) (hlen : vs.length ≤ 1000)
    (hk1 : ¬ (res = true ∧ auto < 2 * (now - t0)) → ∀ h' tk, Fr h₀ L h' m → News h₀ L h' ((mgr, instObj 143 md) :: (md, mdD w t im nm auto g last sn) :: (g, instObj 220 gd) :: (gd, gD w tg ag now) :: (sn, listOf vs.toArray n) :: rest) → Q (.bool res) { s with heap := h', toks := tk })
    (hk : res = true → auto < 2 * (now - t0) → ∀ h' tk a k n' x, Fr h₀ L h' m → News h₀ L h' ((a, tupOf [.str (Str.ofString "release") x, .str l tl, .str nm (t 2)] k) :: (mgr, instObj 143 md) :: (md, mdD w t im nm auto g last sn) :: (g, instObj 220 gd) :: (gd, gD w tg ag now) :: (sn, listOf (vs.toArray.push (Value.ref a)) n') :: rest) → Q (.bool false) { s with heap := h', toks := tk }) :
    wpAny (model prg w) (lawA L fa cd) (call (.ref 119) [.ref mgr, .str l tl, .int t0 tt, .bool res] []) Q E s := by
  obtain ⟨heap, gens, drawn, toks, os⟩ := s
  have hMk := kstMark
  have e1 : @Ne Nat mgr sn := news_ne N (by k_mem) (by k_mem) (ne_cls (by simp))
  have e2 : @Ne Nat md sn := news_ne N (by k_mem) (by k_mem) (ne_cls (by simp))
  have e3 : @Ne Nat g sn := news_ne N (by k_mem) (by k_mem) (ne_cls (by simp))
  have e4 : @Ne Nat gd sn := news_ne N (by k_mem) (by k_mem) (ne_cls (by simp))
  dsimp only at F N hk hk1 ⊢
  unfold prg at *; revert KX; k_fill; intro KX; w_top off
  cases res
  · k_steps
    all_goals first
      | exact hk1 (fun h => Bool.noConfusion h.1) _ _ (by assumption) (by assumption)
      | exact hk1 (fun h => (by assumption : ¬ auto < 2 * (now - t0)) h.2) _ _ (by assumption) (by assumption)
      | exact hk rfl (by assumption) _ _ _ _ _ _ (by assumption) (by assumption)
  · k_steps
    all_goals first
      | exact hk1 (fun h => Bool.noConfusion h.1) _ _ (by assumption) (by assumption)
      | exact hk1 (fun h => (by assumption : ¬ auto < 2 * (now - t0)) h.2) _ _ (by assumption) (by assumption)
      | exact hk rfl (by assumption) _ _ _ _ _ _ (by assumption) (by assumption)
end
end Mine
namespace Mine
local macro_rules | `(tactic| walk_at "getMethod ref") => `(tactic| (k_here; (with_reducible show wpAny _ _ (getMethod (Value.ref _) (Str.ofString "get") _) _ _ _); k_dflt (refine kdg_method (knd := PySem.strKind _ _) (by k_asm) (by k_mem) (by k_asm) ?_)))
local macro_rules | `(tactic| walk_at "call builtin:dict.get") => `(tactic| (k_here; k_dflt (refine kdg_get2 (knd := PySem.strKind _ _) (by k_asm) (by k_mem) (by k_asm) (by k_asm) (strKind_is _ _ _ _) _ (by assumption) ?_); (try dsimp only [Option.getD])))
local macro_rules | `(tactic| walk_at "setItem ref str") => `(tactic| (k_here; k_dflt (refine' kda_set (knd := PySem.strKind _ _) ?F ?N ?U ?d (strKind_is _ _ _ _) ?z ?_; (case F => k_asm); (case N => k_asm); (case U => k_updF); (case d => k_asm); (case z => assumption)); intro h' o' F' N' hd'; (try dsimp only at N'); (try k_sweep)))
local macro_rules | `(tactic| walk_at "delItem ref str") => `(tactic| (k_here; k_dflt (refine' my_del (knd := PySem.strKind _ _) (strKind_is _ _ _ _) ?F ?N ?U ?d ?z ?l ?_; (case F => k_asm); (case N => k_asm); (case U => k_updF); (case d => k_asm); (case z => assumption); (case l => assumption)); intro h' o' F' N' hd'; (try dsimp only at N'); (try k_sweep)))
local macro_rules | `(tactic| walk_at "call builtin:dict.pop") => `(tactic| (k_here; (with_reducible show wpAny _ _ (call (Value.builtin "dict.pop") [Value.ref _, Value.str _ _]) _ _ _); k_dflt (refine' my_pop (knd := PySem.strKind _ _) (strKind_is _ _ _ _) (by rfl) ?F ?N ?U ?d ?z ?l ?_; (case F => k_asm); (case N => k_asm); (case U => k_updF); (case d => k_asm); (case z => assumption); (case l => assumption)); intro h' o' F' N' hd'; (try dsimp only at N'); (try k_sweep)))
local macro_rules | `(tactic| walk_at "compareOp In str ref") => `(tactic| (k_here; k_dflt (refine kda_in (knd := PySem.strKind _ _) (by k_asm) (by k_mem) (by k_asm) (by k_asm) (strKind_is _ _ _ _) _ (by assumption) ?_)))
local macro_rules | `(tactic| walk_at "subscriptTail") => `(tactic| (k_here; (with_reducible show wpAny _ _ (subscriptTail _ _ (Value.ref _) (Value.str _ _)) _ _ _); k_dflt (refine kda_item (knd := PySem.strKind _ _) (by k_asm) (by k_mem) (by k_asm) (strKind_is _ _ _ _) (by assumption) ?_)))
section
variable {w : World} {h₀ : Heap} {L fa : Addr} {cd : Value} {mg mb : Str → Option Value} {mean : ExcName → Option Value} {E : Value → Shared → Prop} {Q : Value → Shared → Prop} {s : Shared} {m : Str → Option Value} {rest : List (Addr × Obj)}
  {mgr md im di lk g gd sn dd tb : Addr} {ol : Obj} {t : Nat → Tok} {t1 t2 t3 x1 x2 x3 x4 x5 : Tok} {auto now last t0 : Int} {nm l c : Str} {f : Tab} {k : Nat}
variable (KX : (Mine.hd.heap_1 w.params).In h₀) (T : Top viewQ (looseW viewQ []) mean mg mb h₀) (B : Below callerA h₀ [] h₀) (F : Fr h₀ L s.heap m)
include KX T B F
set_option maxHeartbeats 4000000 in
theorem c_apAcq
    (N : News h₀ L s.heap ((dd, tupOf [.str (Str.ofString "acquire") x1, .str l x2, .str c x3, .int t0 x4] k) :: (mgr, instObj 143 md) :: (md, mdD w t im nm auto g last sn) :: (im, instObj 66 di) :: (di, imD w t1 t2 t3 lk auto) :: (lk, ol) :: rest))
    (hol : DictTab w rest ol f) (lo : (lk == sysModules) = false) (hoff : OwnOff rest [lk]) (hl : isLock l) (hne1 : @Ne Nat md lk) (hne2 : @Ne Nat di lk)
    (hk : ∀ h' tk ol' add, Fr h₀ L h' m → (∀ p ∈ add, p.2.cls = .type "tuple") → News h₀ L h' (add ++ (dd, tupOf [.str (Str.ofString "acquire") x1, .str l x2, .str c x3, .int t0 x4] k) :: (mgr, instObj 143 md) :: (md, mdD w t im nm auto g last sn) :: (im, instObj 66 di) :: (di, imD w t1 t2 t3 lk auto) :: (lk, ol') :: rest) →
      DictTab w (add ++ rest) ol' (acqTab f l c t0 auto) → Q (.bool (acqOk f l c t0 auto)) { s with heap := h', toks := tk }) :
    wpAny (model prg w) (lawA L fa cd) (call (.ref 126) [.ref mgr, .ref dd] []) Q E s := by
  obtain ⟨heap, gens, drawn, toks, os⟩ := s
  obtain ⟨kvs, hd, hT, hkeys⟩ := hol
  have hMk := kstMark
  have hsz := dict_line (dict_len hd hkeys)
  have hdc := dict_cls hd
  have e1 : @Ne Nat mgr lk := news_ne N (by k_mem) (by k_mem) (ne_cls (by simp [hdc]))
  have e2 : @Ne Nat im lk := news_ne N (by k_mem) (by k_mem) (ne_cls (by simp [hdc]))
  have e3 : @Ne Nat dd lk := news_ne N (by k_mem) (by k_mem) (ne_cls (by simp [hdc]))
  dsimp only at F N hk ⊢
  unfold prg at *; revert KX; k_fill; intro KX; w_top off
  cases e : f l with
  | none =>
    have hv := hT.none e
    k_steps
    all_goals exact q_bool (hk _ _ _ [(_, tupOf [.str c _, .int t0 _] _)] (by assumption) one_tuple (by assumption) (dt_store (by assumption) hT hkeys hl (acqOk_none e))) (acqOk_none e)
  | some p =>
    obtain ⟨c', t'⟩ := p
    obtain ⟨a, n, u1, u2, hv, hm⟩ := hT.some e
    have N2 : News h₀ L heap ((a, tupOf [.str c' u1, .int t' u2] n) :: (dd, tupOf [.str (Str.ofString "acquire") x1, .str l x2, .str c x3, .int t0 x4] k) :: (mgr, instObj 143 md) :: (md, mdD w t im nm auto g last sn) :: (im, instObj 66 di) :: (di, imD w t1 t2 t3 lk auto) :: (lk, ol) :: rest) :=
      news_sub N (fun p hp => by rcases List.mem_cons.mp hp with rfl | hp; (· simp [hm]); (· exact hp))
    have e4 : @Ne Nat a lk := news_ne N2 (by k_mem) (by k_mem) (ne_cls (by simp [hdc]))
    clear N
    k_steps
    all_goals first
      | (have ho := acqOk_exp (c := c) (t := t0) (auto := auto) e (by assumption); exact q_bool (hk _ _ _ [(_, tupOf [.str c _, .int t0 _] _)] (by assumption) one_tuple (news_sub (by assumption) sub_skip1) (dt_store (by assumption) hT hkeys hl ho)) ho)
      | (have ho := acqOk_same (c := c) (t := t0) (auto := auto) e (by assumption); exact q_bool (hk _ _ _ [(_, tupOf [.str c _, .int t0 _] _)] (by assumption) one_tuple (news_sub (by assumption) sub_skip1) (dt_store (by assumption) hT hkeys hl ho)) ho)
      | (have ho := acqOk_no (c := c) (t := t0) (auto := auto) e (by assumption) (by assumption); exact q_bool (hk _ _ _ [] (by assumption) no_tuple (news_sub (by assumption) sub_skip0) (by rw [acqTab_no ho]; exact ⟨kvs, hd, hT, hkeys⟩)) ho)
end
end Mine
namespace Mine
local macro_rules | `(tactic| walk_at "zz") => `(tactic| fail)
local macro_rules | `(tactic| walk_at "getMethod ref") => `(tactic| (k_here; (with_reducible show wpAny _ _ (getMethod (Value.ref _) (Str.ofString "get") _) _ _ _); k_dflt (refine kdg_method (knd := PySem.strKind _ _) (by k_asm) (by k_mem) (by k_asm) ?_)))
local macro_rules | `(tactic| walk_at "call builtin:dict.get") => `(tactic| (k_here; k_dflt (refine kdg_get2 (knd := PySem.strKind _ _) (by k_asm) (by k_mem) (by k_asm) (by k_asm) (strKind_is _ _ _ _) _ (by assumption) ?_); (try dsimp only [Option.getD])))
local macro_rules | `(tactic| walk_at "setItem ref str") => `(tactic| (k_here; k_dflt (refine' kda_set (knd := PySem.strKind _ _) ?F ?N ?U ?d (strKind_is _ _ _ _) ?z ?_; (case F => k_asm); (case N => k_asm); (case U => k_updF); (case d => k_asm); (case z => assumption)); intro h' o' F' N' hd'; (try dsimp only at N'); (try k_sweep)))
local macro_rules | `(tactic| walk_at "delItem ref str") => `(tactic| (k_here; k_dflt (refine' my_del (knd := PySem.strKind _ _) (strKind_is _ _ _ _) ?F ?N ?U ?d ?z ?l ?_; (case F => k_asm); (case N => k_asm); (case U => k_updF); (case d => k_asm); (case z => assumption); (case l => assumption)); intro h' o' F' N' hd'; (try dsimp only at N'); (try k_sweep)))
local macro_rules | `(tactic| walk_at "call builtin:dict.pop") => `(tactic| (k_here; (with_reducible show wpAny _ _ (call (Value.builtin "dict.pop") [Value.ref _, Value.str _ _]) _ _ _); k_dflt (refine' my_pop (knd := PySem.strKind _ _) (strKind_is _ _ _ _) (by rfl) ?F ?N ?U ?d ?z ?l ?_; (case F => k_asm); (case N => k_asm); (case U => k_updF); (case d => k_asm); (case z => assumption); (case l => assumption)); intro h' o' F' N' hd'; (try dsimp only at N'); (try k_sweep)))
local macro_rules | `(tactic| walk_at "compareOp In str ref") => `(tactic| (k_here; k_dflt (refine kda_in (knd := PySem.strKind _ _) (by k_asm) (by k_mem) (by k_asm) (by k_asm) (strKind_is _ _ _ _) _ (by assumption) ?_)))
local macro_rules | `(tactic| walk_at "subscriptTail") => `(tactic| (k_here; (with_reducible show wpAny _ _ (subscriptTail _ _ (Value.ref _) (Value.str _ _)) _ _ _); k_dflt (refine kda_item (knd := PySem.strKind _ _) (by k_asm) (by k_mem) (by k_asm) (strKind_is _ _ _ _) (by assumption) ?_)))
section
variable {w : World} {h₀ : Heap} {L fa : Addr} {cd : Value} {mg mb : Str → Option Value} {mean : ExcName → Option Value} {E : Value → Shared → Prop} {Q : Value → Shared → Prop} {s : Shared} {m : Str → Option Value} {rest : List (Addr × Obj)}
  {mgr md im di lk g gd sn dd tb : Addr} {ol : Obj} {t : Nat → Tok} {t1 t2 t3 x1 x2 x3 x4 x5 : Tok} {auto now last t0 : Int} {nm l c : Str} {f : Tab} {k : Nat}
variable (KX : (Mine.hd.heap_1 w.params).In h₀) (T : Top viewQ (looseW viewQ []) mean mg mb h₀) (B : Below callerA h₀ [] h₀) (F : Fr h₀ L s.heap m)
include KX T B F
set_option maxHeartbeats 4000000 in
theorem c_apRel
    (N : News h₀ L s.heap ((dd, tupOf [.str (Str.ofString "release") x1, .str l x2, .str c x3] k) :: (mgr, instObj 143 md) :: (md, mdD w t im nm auto g last sn) :: (im, instObj 66 di) :: (di, imD w t1 t2 t3 lk auto) :: (lk, ol) :: rest))
    (hol : DictTab w rest ol f) (lo : (lk == sysModules) = false) (hoff : OwnOff rest [lk]) (hne1 : @Ne Nat md lk) (hne2 : @Ne Nat di lk)
    (hk : ∀ h' tk ol' add, Fr h₀ L h' m → (∀ p ∈ add, p.2.cls = .type "tuple") → News h₀ L h' (add ++ (dd, tupOf [.str (Str.ofString "release") x1, .str l x2, .str c x3] k) :: (mgr, instObj 143 md) :: (md, mdD w t im nm auto g last sn) :: (im, instObj 66 di) :: (di, imD w t1 t2 t3 lk auto) :: (lk, ol') :: rest) →
      DictTab w (add ++ rest) ol' (relTab f l c) → Q (.none) { s with heap := h', toks := tk }) :
    wpAny (model prg w) (lawA L fa cd) (call (.ref 126) [.ref mgr, .ref dd] []) Q E s := by
  obtain ⟨heap, gens, drawn, toks, os⟩ := s
  obtain ⟨kvs, hd, hT, hkeys⟩ := hol
  have hMk := kstMark
  have hsz := dict_line (dict_len hd hkeys)
  have hdc := dict_cls hd
  have e1 : @Ne Nat mgr lk := news_ne N (by k_mem) (by k_mem) (ne_cls (by simp [hdc]))
  have e2 : @Ne Nat im lk := news_ne N (by k_mem) (by k_mem) (ne_cls (by simp [hdc]))
  have e3 : @Ne Nat dd lk := news_ne N (by k_mem) (by k_mem) (ne_cls (by simp [hdc]))
  dsimp only at F N hk ⊢
  unfold prg at *; revert KX; k_fill; intro KX; w_top off
  cases e : f l with
  | none =>
    have hv := hT.none e
    have hi : (PySem.valueAt kvs l).isSome = false := by rw [hv]; rfl
    k_steps
    all_goals exact hk _ _ _ [] (by assumption) no_tuple (by assumption) (by rw [relTab_none e]; exact ⟨kvs, hd, hT, hkeys⟩)
  | some p =>
    obtain ⟨c', t'⟩ := p
    obtain ⟨a, n, u1, u2, hv, hm⟩ := hT.some e
    have hi : (PySem.valueAt kvs l).isSome = true := by rw [hv]; rfl
    have N2 : News h₀ L heap ((a, tupOf [.str c' u1, .int t' u2] n) :: (dd, tupOf [.str (Str.ofString "release") x1, .str l x2, .str c x3] k) :: (mgr, instObj 143 md) :: (md, mdD w t im nm auto g last sn) :: (im, instObj 66 di) :: (di, imD w t1 t2 t3 lk auto) :: (lk, ol) :: rest) :=
      news_sub N (fun p hp => by rcases List.mem_cons.mp hp with rfl | hp; (· simp [hm]); (· exact hp))
    have e9 : @Ne Nat a lk := news_ne N2 (by k_mem) (by k_mem) (ne_cls (by simp [hdc]))
    clear N
    k_steps
    all_goals first
      | (have ho : (c' == c) = true := by assumption); exact hk _ _ _ [] (by assumption) no_tuple (news_sub (by assumption) sub_skip0) (dt_rel (by assumption) hT hkeys e ho)
      | (have ho : (c' == c) = false := by assumption); exact hk _ _ _ [] (by assumption) no_tuple (news_sub (by assumption) sub_skip0) (by rw [relTab_other e ho]; exact ⟨kvs, hd, hT, hkeys⟩)
set_option maxHeartbeats 4000000 in
theorem c_deedRel
    (N : News h₀ L s.heap ((dd, tupOf [.str (Str.ofString "release") x1, .str l x2, .str c x3] k) :: (tb, ol) :: rest))
    (hol : DictTab w rest ol f) (lo : (tb == sysModules) = false) (hoff : OwnOff rest [tb]) 
    (hk : ∀ h' tk ol' add, Fr h₀ L h' m → (∀ p ∈ add, p.2.cls = .type "tuple") → News h₀ L h' (add ++ (dd, tupOf [.str (Str.ofString "release") x1, .str l x2, .str c x3] k) :: (tb, ol') :: rest) →
      DictTab w (add ++ rest) ol' (relTab f l c) → Q (.none) { s with heap := h', toks := tk }) :
    wpAny (model prg w) (lawA L fa cd) (call (.ref 231) [.ref tb, .ref dd, .int auto x5] []) Q E s := by
  obtain ⟨heap, gens, drawn, toks, os⟩ := s
  obtain ⟨kvs, hd, hT, hkeys⟩ := hol
  have hMk := kstMark
  have hsz := dict_line (dict_len hd hkeys)
  have hdc := dict_cls hd
  have e1 : @Ne Nat dd tb := news_ne N (by k_mem) (by k_mem) (ne_cls (by simp [hdc]))
  dsimp only at F N hk ⊢
  unfold prg at *; revert KX; k_fill; intro KX; w_top off
  cases e : f l with
  | none =>
    have hv := hT.none e
    have hi : (PySem.valueAt kvs l).isSome = false := by rw [hv]; rfl
    k_steps
    all_goals exact hk _ _ _ [] (by assumption) no_tuple (by assumption) (by rw [relTab_none e]; exact ⟨kvs, hd, hT, hkeys⟩)
  | some p =>
    obtain ⟨c', t'⟩ := p
    obtain ⟨a, n, u1, u2, hv, hm⟩ := hT.some e
    have hi : (PySem.valueAt kvs l).isSome = true := by rw [hv]; rfl
    have N2 : News h₀ L heap ((a, tupOf [.str c' u1, .int t' u2] n) :: (dd, tupOf [.str (Str.ofString "release") x1, .str l x2, .str c x3] k) :: (tb, ol) :: rest) :=
      news_sub N (fun p hp => by rcases List.mem_cons.mp hp with rfl | hp; (· simp [hm]); (· exact hp))
    have e9 : @Ne Nat a tb := news_ne N2 (by k_mem) (by k_mem) (ne_cls (by simp [hdc]))
    clear N
    k_steps
    all_goals first
      | (have ho : (c' == c) = true := by assumption); exact hk _ _ _ [] (by assumption) no_tuple (news_sub (by assumption) sub_skip0) (dt_rel (by assumption) hT hkeys e ho)
      | (have ho : (c' == c) = false := by assumption); exact hk _ _ _ [] (by assumption) no_tuple (news_sub (by assumption) sub_skip0) (by rw [relTab_other e ho]; exact ⟨kvs, hd, hT, hkeys⟩)
set_option maxHeartbeats 4000000 in
theorem c_deedAcq
    (N : News h₀ L s.heap ((dd, tupOf [.str (Str.ofString "acquire") x1, .str l x2, .str c x3, .int t0 x4] k) :: (tb, ol) :: rest))
    (hol : DictTab w rest ol f) (lo : (tb == sysModules) = false) (hoff : OwnOff rest [tb]) (hl : isLock l)
    (hk : ∀ h' tk ol' add, Fr h₀ L h' m → (∀ p ∈ add, p.2.cls = .type "tuple") → News h₀ L h' (add ++ (dd, tupOf [.str (Str.ofString "acquire") x1, .str l x2, .str c x3, .int t0 x4] k) :: (tb, ol') :: rest) →
      DictTab w (add ++ rest) ol' (acqTab f l c t0 auto) → Q (.bool (acqOk f l c t0 auto)) { s with heap := h', toks := tk }) :
    wpAny (model prg w) (lawA L fa cd) (call (.ref 231) [.ref tb, .ref dd, .int auto x5] []) Q E s := by
  obtain ⟨heap, gens, drawn, toks, os⟩ := s
  obtain ⟨kvs, hd, hT, hkeys⟩ := hol
  have hMk := kstMark
  have hsz := dict_line (dict_len hd hkeys)
  have hdc := dict_cls hd
  have e1 : @Ne Nat dd tb := news_ne N (by k_mem) (by k_mem) (ne_cls (by simp [hdc]))
  dsimp only at F N hk ⊢
  unfold prg at *; revert KX; k_fill; intro KX; w_top off
  cases e : f l with
  | none =>
    have hv := hT.none e
    have hi : (PySem.valueAt kvs l).isSome = false := by rw [hv]; rfl
    k_steps
    all_goals exact q_bool (hk _ _ _ [(_, tupOf [.str c _, .int t0 _] _)] (by assumption) one_tuple (by assumption) (dt_store (by assumption) hT hkeys hl (acqOk_none e))) (acqOk_none e)
  | some p =>
    obtain ⟨c', t'⟩ := p
    obtain ⟨a, n, u1, u2, hv, hm⟩ := hT.some e
    have hi : (PySem.valueAt kvs l).isSome = true := by rw [hv]; rfl
    have N2 : News h₀ L heap ((a, tupOf [.str c' u1, .int t' u2] n) :: (dd, tupOf [.str (Str.ofString "acquire") x1, .str l x2, .str c x3, .int t0 x4] k) :: (tb, ol) :: rest) :=
      news_sub N (fun p hp => by rcases List.mem_cons.mp hp with rfl | hp; (· simp [hm]); (· exact hp))
    have e9 : @Ne Nat a tb := news_ne N2 (by k_mem) (by k_mem) (ne_cls (by simp [hdc]))
    clear N
    k_steps
    all_goals first
      | (have ho := acqOk_exp (c := c) (t := t0) (auto := auto) e (Int.not_le.mp (by assumption)); exact q_bool (hk _ _ _ [(_, tupOf [.str c _, .int t0 _] _)] (by assumption) one_tuple (news_sub (by assumption) sub_skip1) (dt_store (by assumption) hT hkeys hl ho)) ho)
      | (have hx : (c' != c) = false := by assumption); (have ho := acqOk_same (c := c) (t := t0) (auto := auto) e (by simpa using hx)); exact q_bool (hk _ _ _ [(_, tupOf [.str c _, .int t0 _] _)] (by assumption) one_tuple (news_sub (by assumption) sub_skip1) (dt_store (by assumption) hT hkeys hl ho)) ho
      | (have hx : (c' != c) = true := by assumption); (have ho := acqOk_no (c := c) (t := t0) (auto := auto) e (Int.not_lt.mpr (by assumption)) (by simpa using hx)); exact q_bool (hk _ _ _ [] (by assumption) no_tuple (news_sub (by assumption) sub_skip0) (by rw [acqTab_no ho]; exact ⟨kvs, hd, hT, hkeys⟩)) ho
set_option maxHeartbeats 4000000 in
theorem c_has
    (N : News h₀ L s.heap ((tb, ol) :: rest))
    (hol : DictTab w rest ol f) (lo : (tb == sysModules) = false)
    (hk : ∀ h' tk, Fr h₀ L h' m → News h₀ L h' ((tb, ol) :: rest) → Q (.bool (hasTab f l c now auto)) { s with heap := h', toks := tk }) :
    wpAny (model prg w) (lawA L fa cd) (call (.ref 238) [.ref tb, .str l x1, .str c x2, .int now x3, .int auto x4] []) Q E s := by
  obtain ⟨heap, gens, drawn, toks, os⟩ := s
  obtain ⟨kvs, hd, hT, hkeys⟩ := hol
  dsimp only at F N hk ⊢
  unfold prg at *; revert KX; k_fill; intro KX; w_top off
  cases e : f l with
  | none =>
    have hv := hT.none e
    have hi : (PySem.valueAt kvs l).isSome = false := by rw [hv]; rfl
    have hq : hasTab f l c now auto = false := by simp [hasTab, e]
    rw [hq] at hk
    k_steps
    all_goals exact hk _ _ (by assumption) (by assumption)
  | some p =>
    obtain ⟨c', t'⟩ := p
    obtain ⟨a, n, u1, u2, hv, hm⟩ := hT.some e
    have hi : (PySem.valueAt kvs l).isSome = true := by rw [hv]; rfl
    have hq : hasTab f l c now auto = (decide (c' = c) && decide (now - t' < auto)) := by simp [hasTab, e]
    rw [hq] at hk
    have N2 : News h₀ L heap ((a, tupOf [.str c' u1, .int t' u2] n) :: (tb, ol) :: rest) :=
      news_sub N (fun p hp => by rcases List.mem_cons.mp hp with rfl | hp; (· simp [hm]); (· exact hp))
    clear N
    k_steps
    all_goals (refine q_bool (hk _ _ (by assumption) (news_sub (by assumption) sub_skip0)) ?_)
    all_goals first
      | (have h1 := beq_iff_eq.mp (by assumption : (c' == c) = true); simp [h1]; done)
      | (have h1 := beq_eq_false_iff_ne.mp (by assumption : (c' == c) = false); simp [h1]; done)
end
end Mine
open PySem PySem.W PyProof.Rows PySem.Calls
namespace Mine
section
variable {prog : Program} {w : World} {A : Around} {E : Value → Shared → Prop} {s : Shared} {env : Env} {h₀ : Heap} {x : Str} {body : List Stmt} {Q : Flow → Shared → Prop}
def NoTup (own : List (Addr × Obj)) : Prop := ∀ p ∈ own, p.2.cls ≠ .type "tuple"
theorem my_loop {I : Addr} {fp wr : List Addr} {n : Nat} {P : Nat → Value → Prop} {St : Nat → Heap → Prop} {m₀ : Str → Option Value} {news : List (Addr × Obj)} (J : Nat → (Str → Option Value) → List (Addr × Obj) → Prop)
    (W : Walks prog w A I fp wr n P St) (hfw : ∀ a ∈ fp, a ∈ wr) (hwf : ∀ b ∈ wr, b ∈ fp) (hob : ∀ i h, St i h → ∀ b ∈ wr, ∃ o, h.get? b = some o ∧ o.cls ≠ .type "tuple") (hLf : env.locals ∉ fp) (hwr : ∀ b ∈ wr, h₀.get? b = none) (hnw : ∀ p ∈ news, p.1 ∉ wr) (hst : St 0 s.heap)
    (F : Fr h₀ env.locals s.heap m₀) (N : News h₀ env.locals s.heap news) (hj : J 0 m₀ news)
    (turn : ∀ i v m₁ nx h tk own, i < n → P i v → NoTup own → OwnOff own (nx.map (·.1)) → J i m₁ nx → Fr h₀ env.locals h (fun y => if y = x then some v else m₁ y) → News h₀ env.locals h (nx ++ own) →
      wpAny (model prog w) A (execs body env) (InvPostG h₀ env.locals (J (i + 1)) own { s with heap := h, toks := tk } Q) E { s with heap := h, toks := tk })
    (done : ∀ m₁ nx h tk, J n m₁ nx → Fr h₀ env.locals h m₁ → News h₀ env.locals h nx → Q .next { s with heap := h, toks := tk }) :
    LoopAtV prog w A h₀ env x body Q E (.ref I) s := by
  refine ⟨I, fp, wr, n, P, St, m₀, news, J, rfl, W, hLf, hwr, hnw, hst, F, N, hj, ?_, ?_⟩
  · rintro i v m₁ news₁ s₁ own ⟨hh', tk', rfl⟩ hin hP hJ hoff hown hget hmem hst' F₁ N₁
    have hsep : OwnOff own (news₁.map (·.1)) := by
      intro p hp b hb e
      obtain ⟨q, hq, rfl⟩ := List.mem_map.mp hb
      exact hoff q hq (hfw _ (e ▸ hown p hp))
    have hnt : NoTup own := by
      intro p hp
      obtain ⟨o, ho, hc⟩ := hob _ _ hst' p.1 (hfw _ (hown p hp))
      have hg := hget p hp
      rw [ho] at hg
      cases hg
      exact hc
    have N₂ : News h₀ env.locals hh' (news₁ ++ own) := fun p hp => N₁ p ((List.mem_append.mp hp).elim (fun h => List.mem_append.mpr (.inr h)) fun h => List.mem_append.mpr (.inl h))
    refine wpAny_mono (turn i v m₁ news₁ hh' tk' own hin hP hnt hsep hJ F₁ N₂) (fun f s₂ p => ?_) fun _ _ e => e
    have fin : InvEndG h₀ env.locals (J (i + 1)) own { s with heap := hh', toks := tk' } s₂ → LoopStepU h₀ env.locals wr own (J (i + 1)) { s with heap := hh', toks := tk' } .next s₂ := by
      rintro ⟨h', tk, m', news', nx, e, F', N', hn, ho, ha, hm⟩
      refine ⟨rfl, h', tk, m', nx, e, F', fun p hp => N' p ((List.mem_append.mp hp).elim (ho p) (hn p)), fun p hp hq => ?_, hm⟩
      obtain ⟨o, hbo, _⟩ := hob _ _ hst' _ hq
      exact ha _ (hmem _ (hwf _ hq) (hwr _ hq) o hbo) p.1 (List.mem_map.mpr ⟨p, hp, rfl⟩) rfl
    cases f with
    | ret v => exact .ret p
    | brk => exact .brk p
    | next => exact .next (fin p)
    | cont => exact .cont (fin p)
  · rintro h' tk m' news' F' N' _ hJ
    exact done m' news' h' tk hJ F' N'
theorem walks_wider {I : Addr} {fp wr : List Addr} {n : Nat} {P : Nat → Value → Prop} {St : Nat → Heap → Prop} (W : Walks prog w A I fp wr n P St) : Walks prog w A I fp fp n P St where
  sub := fun _ hb => hb
  frame := W.frame
  item := fun i s Q E hi st hQ => W.item i s Q E hi st fun v h' tk hP hst hk => hQ v h' tk hP hst fun b o hb e => hk b o (fun hw => hb (W.sub b hw)) e
  done := fun s Q E st hQ => W.done s Q E st fun h' tk hk => hQ h' tk fun b o hb e => hk b o (fun hw => hb (W.sub b hw)) e
  self := W.self
theorem my_iter {l : Addr} {vs : List Value} {c : Nat} {m₀ : Str → Option Value} {news : List (Addr × Obj)} (J : Nat → (Str → Option Value) → List (Addr × Obj) → Prop)
    (hh : A.handled = none) (F : Fr h₀ env.locals s.heap m₀) (N : News h₀ env.locals s.heap ((l, listOf vs.toArray c) :: news)) (hoff : ∀ p ∈ news, p.1 ≠ l) (hj : J 0 m₀ news)
    (turn : ∀ i v m₁ nx h tk own, vs[i]? = some v → NoTup own → OwnOff own (nx.map (·.1)) → J i m₁ nx → Fr h₀ env.locals h (fun y => if y = x then some v else m₁ y) → News h₀ env.locals h (nx ++ own) →
      wpAny (model prog w) A (execs body env) (InvPostG h₀ env.locals (J (i + 1)) own { s with heap := h, toks := tk } Q) E { s with heap := h, toks := tk })
    (done : ∀ m₁ nx h tk, J vs.length m₁ nx → Fr h₀ env.locals h m₁ → News h₀ env.locals h nx → Q .next { s with heap := h, toks := tk }) :
    wpAny (model prog w) A (pyIter (.ref l)) (fun it s₂ => LoopAtV prog w A h₀ env x body Q E it s₂) E s := by
  have hl := N _ (.head _)
  have hls : s.heap.IsList l vs.toArray := ⟨_, hl.1, rfl, c, rfl⟩
  have hne : l ≠ s.heap.objs.size := Nat.ne_of_lt (Heap.lt_size hl.1)
  refine wpAny_pyIter_list hls ?_
  have W := walks_wider (Walks.list (prog := prog) (w := w) hh s.heap.objs.size l hne vs.toArray)
  have hlen : vs.toArray.size = vs.length := by simp
  rw [hlen] at W
  refine my_loop (s := { s with heap := s.heap.push _ }) J W (fun _ h => h) (fun _ h => h) ?_ ?_ ?_ ?_ ⟨⟨_, Heap.get?_push_size _ rfl, rfl, rfl⟩, hls.at fun o e => Heap.get?_push_of_some _ e⟩ (F.push _) (fun p hp => ⟨Heap.get?_push_of_some _ (N p (.tail _ hp)).1, (N p (.tail _ hp)).2⟩) hj ?_ ?_
  · rintro i h ⟨⟨o1, g1, c1, _⟩, ⟨o2, g2, c2, _⟩⟩ b hb
    rcases List.mem_cons.mp hb with rfl | hb
    · exact ⟨o1, g1, by rw [c1]; simp⟩
    · rw [List.mem_singleton.mp hb]
      exact ⟨o2, g2, by rw [c2]; simp⟩
  · intro hm
    rcases List.mem_cons.mp hm with e | hm
    · exact absurd F.ns.lt (e ▸ Nat.lt_irrefl _)
    · exact hl.2.1 (List.mem_singleton.mp hm).symm
  · intro b hb
    rcases List.mem_cons.mp hb with rfl | hb
    · exact next_is_new F
    · rw [List.mem_singleton.mp hb]; exact hl.2.2
  · intro p hp hI
    rcases List.mem_cons.mp hI with e | hI
    · exact absurd (Heap.lt_size (N p (.tail _ hp)).1) (e ▸ Nat.lt_irrefl _)
    · exact hoff p hp (List.mem_singleton.mp hI)
  · intro i v m₁ nx h tk own _ hP hnt ho hJ F₁ N₁
    exact turn i v m₁ nx h tk own (by simpa using hP) hnt ho hJ F₁ N₁
  · intro m₁ nx h tk hJ F₁ N₁
    exact done m₁ nx h tk hJ F₁ N₁
theorem my_text {tx : Str} {t : Tok} {m₀ : Str → Option Value} {news : List (Addr × Obj)} (J : Nat → (Str → Option Value) → List (Addr × Obj) → Prop)
    (hh : A.handled = none) (F : Fr h₀ env.locals s.heap m₀) (N : News h₀ env.locals s.heap news) (hj : J 0 m₀ news)
    (turn : ∀ i v m₁ nx h tk own, PySem.SignAt tx i v → NoTup own → OwnOff own (nx.map (·.1)) → J i m₁ nx → Fr h₀ env.locals h (fun y => if y = x then some v else m₁ y) → News h₀ env.locals h (nx ++ own) →
      wpAny (model prog w) A (execs body env) (InvPostG h₀ env.locals (J (i + 1)) own { s with heap := h, toks := tk } Q) E { s with heap := h, toks := tk })
    (done : ∀ m₁ nx h tk, J tx.cps.size m₁ nx → Fr h₀ env.locals h m₁ → News h₀ env.locals h nx → Q .next { s with heap := h, toks := tk }) :
    wpAny (model prog w) A (pyIter (.str tx t)) (fun it s₂ => LoopAtV prog w A h₀ env x body Q E it s₂) E s := by
  have go : ∀ (T : String) (o : Obj), T ≠ "tuple" → Walks prog w A s.heap.objs.size [s.heap.objs.size] [s.heap.objs.size] tx.cps.size (PySem.SignAt tx) (fun i h => h.IsStrIter s.heap.objs.size T tx t i) →
      (s.heap.push o).IsStrIter s.heap.objs.size T tx t 0 → LoopAtV prog w A h₀ env x body Q E (.ref s.heap.objs.size) { s with heap := s.heap.push o } := by
    intro T o hT W hst
    refine my_loop (s := { s with heap := s.heap.push o }) J W (fun _ h => h) (fun _ h => h) ?_ ?_ ?_ ?_ hst (F.push _) (fun p hp => ⟨Heap.get?_push_of_some _ (N p hp).1, (N p hp).2⟩) hj ?_ ?_
    · rintro i h ⟨o1, g1, c1, _⟩ b hb
      rw [List.mem_singleton.mp hb]
      exact ⟨o1, g1, by rw [c1]; simpa using hT⟩
    · intro hm
      exact absurd F.ns.lt ((List.mem_singleton.mp hm) ▸ Nat.lt_irrefl _)
    · intro b hb
      rw [List.mem_singleton.mp hb]
      exact next_is_new F
    · intro p hp hI
      exact absurd (Heap.lt_size (N p hp).1) ((List.mem_singleton.mp hI) ▸ Nat.lt_irrefl _)
    · intro i v m₁ nx h tk own _ hP hnt ho hJ F₁ N₁
      exact turn i v m₁ nx h tk own hP hnt ho hJ F₁ N₁
    · intro m₁ nx h tk hJ F₁ N₁
      exact done m₁ nx h tk hJ F₁ N₁
  cases ha : tx.cps.all (· < 128)
  · exact wpAny_pyIter_wide ha (go _ _ (by decide) (Walks.strWide hh _ tx t) ⟨_, Heap.get?_push_size _ rfl, rfl, rfl⟩)
  · exact wpAny_pyIter_ascii ha (go _ _ (by decide) (Walks.strAscii hh _ tx t) ⟨_, Heap.get?_push_size _ rfl, rfl, rfl⟩)
theorem my_range {r : Addr} {b₀ : Int} {t₀ u₀ v₀ : Tok} {n : Nat} {m₀ : Str → Option Value} {news : List (Addr × Obj)} (J : Nat → (Str → Option Value) → List (Addr × Obj) → Prop)
    (hh : A.handled = none) (hr : IsRange s.heap r 0 b₀ 1 t₀ u₀ v₀) (hsmall : Builtin.Range.small 0 b₀ 1 = true) (hn : Builtin.Range.rangeSize 0 b₀ 1 = (n : Int))
    (F : Fr h₀ env.locals s.heap m₀) (N : News h₀ env.locals s.heap news) (hj : J 0 m₀ news)
    (turn : ∀ i t m₁ nx h tk own, i < n → NoTup own → OwnOff own (nx.map (·.1)) → J i m₁ nx → Fr h₀ env.locals h (fun y => if y = x then some (.int (i : Int) t) else m₁ y) → News h₀ env.locals h (nx ++ own) →
      wpAny (model prog w) A (execs body env) (InvPostG h₀ env.locals (J (i + 1)) own { s with heap := h, toks := tk } Q) E { s with heap := h, toks := tk })
    (done : ∀ m₁ nx h tk, J n m₁ nx → Fr h₀ env.locals h m₁ → News h₀ env.locals h nx → Q .next { s with heap := h, toks := tk }) :
    wpAny (model prog w) A (pyIter (.ref r)) (fun it s₂ => LoopAtV prog w A h₀ env x body Q E it s₂) E s := by
  refine wpAny_pyIter_range hr hsmall ?_
  have W := Walks.range (prog := prog) (w := w) hh s.heap.objs.size 0 1 n
  refine my_loop (s := { s with heap := s.heap.push _ }) J W (fun _ h => h) (fun _ h => h) ?_ ?_ ?_ ?_ (by show IsRangeIter _ _ _ _ _; rw [hn]; simpa using Heap.get?_push_size _ rfl) (F.push _) (fun p hp => ⟨Heap.get?_push_of_some _ (N p hp).1, (N p hp).2⟩) hj ?_ ?_
  · intro i h hi b hb
    rw [List.mem_singleton.mp hb]
    exact ⟨_, hi, by simp⟩
  · intro hm
    exact absurd F.ns.lt ((List.mem_singleton.mp hm) ▸ Nat.lt_irrefl _)
  · intro b hb
    rw [List.mem_singleton.mp hb]
    exact next_is_new F
  · intro p hp hI
    exact absurd (Heap.lt_size (N p hp).1) ((List.mem_singleton.mp hI) ▸ Nat.lt_irrefl _)
  · rintro i v m₁ nx h tk own hi ⟨t, rfl⟩ hnt ho hJ F₁ N₁
    have e : (0 : Int) + (i : Int) * 1 = (i : Int) := by omega
    rw [e] at F₁
    exact turn i t m₁ nx h tk own hi hnt ho hJ F₁ N₁
  · intro m₁ nx h tk hJ F₁ N₁
    exact done m₁ nx h tk hJ F₁ N₁
end
end Mine
namespace Mine
def Stop (p : Prop) : Prop := p
theorem stop_intro {p : Prop} (h : Stop p) : p := h
theorem fr_canon {h₀ h : Heap} {L : Addr} {x : Str} {v : Value} {m₀ m₁ : Str → Option Value} (names : List Str) (hm : ∀ z, z ≠ x → names.contains z = false → m₁ z = m₀ z)
    (F : Fr h₀ L h (fun y => if y = x then some v else m₁ y)) : Fr h₀ L h (fun y => if y = x then some v else if names.contains y = true then m₁ y else m₀ y) := by
  have e : (fun y => if y = x then some v else if names.contains y = true then m₁ y else m₀ y) = fun y => if y = x then some v else m₁ y := by
    funext y
    by_cases hy : y = x
    · simp [hy]
    · simp only [if_neg hy]
      cases hc : names.contains y with
      | true => simp
      | false => simp only [Bool.false_eq_true, if_false]; exact (hm y hy hc).symm
  rw [e]; exact F
theorem fr_out {h₀ h : Heap} {L : Addr} {m₀ m₁ : Str → Option Value} (names : List Str) (hm : ∀ z, names.contains z = false → m₁ z = m₀ z)
    (F : Fr h₀ L h m₁) : Fr h₀ L h (fun y => if names.contains y = true then m₁ y else m₀ y) := by
  have e : (fun y => if names.contains y = true then m₁ y else m₀ y) = m₁ := by
    funext y
    cases hc : names.contains y with
    | true => simp
    | false => simp only [Bool.false_eq_true, if_false]; exact (hm y hc).symm
  rw [e]; exact F
def proI (ks : List Str) (c : Str) (t auto : Int) (f : Tab) (i : Nat) : Tab := fun x => if x ∈ ks.take i then proOne c t auto (f x) else f x
theorem proI_zero {ks : List Str} {c : Str} {t auto : Int} {f : Tab} : proI ks c t auto f 0 = f := by funext x; simp [proI]
theorem proI_at {ks : List Str} {c k : Str} {t auto : Int} {f : Tab} {i : Nat} (hn : ks.Nodup) (hk : ks[i]? = some k) : proI ks c t auto f i k = f k := by
  unfold proI
  rw [if_neg]
  intro hm
  obtain ⟨j, hj, e⟩ := List.mem_iff_getElem.mp hm
  rw [List.length_take] at hj
  have hi : i < ks.length := by
    rcases Nat.lt_or_ge i ks.length with q | q
    · exact q
    · rw [List.getElem?_eq_none q] at hk; cases hk
  rw [List.getElem_take] at e
  rw [List.getElem?_eq_getElem hi] at hk
  have hk' := Option.some.inj hk
  have := (List.getElem_inj (h₀ := by omega) (h₁ := hi) hn).mp (e.trans hk'.symm)
  omega
theorem proI_succ {ks : List Str} {c k : Str} {t auto : Int} {f : Tab} {i : Nat} (hk : ks[i]? = some k) : proI ks c t auto f (i + 1) = fun x => if x = k then proOne c t auto (f k) else proI ks c t auto f i x := by
  funext x
  unfold proI
  rw [List.take_add_one, hk]
  by_cases e : x = k
  · subst e; simp
  · simp [e]
theorem proI_all {ks : List Str} {c : Str} {t auto : Int} {f : Tab} (h : ∀ x, x ∉ ks → f x = none) : proI ks c t auto f ks.length = proTab f c t auto := by
  funext x
  unfold proI proTab
  rw [List.take_length]
  by_cases e : x ∈ ks
  · rw [if_pos e]
  · rw [if_neg e, h x e]; rfl
theorem valueAt_none_of {kvs : List (Str × Value)} {x : Str} (h : x ∉ kvs.map (·.1)) : PySem.valueAt kvs x = none := by
  cases e : PySem.valueAt kvs x with
  | none => rfl
  | some v =>
    obtain ⟨p, hp, rfl⟩ := valueAt_some_mem e
    exact absurd (List.mem_map_of_mem hp) h
theorem tab_none_of {nx : List (Addr × Obj)} {kvs : List (Str × Value)} {f : Tab} (hT : TabRel nx kvs f) {x : Str} (h : PySem.valueAt kvs x = none) : f x = none := by
  cases e : f x with
  | none => rfl
  | some p =>
    obtain ⟨a, n, t1, t2, hv, _⟩ := hT.some (c := p.1) (t := p.2) e
    rw [h] at hv; cases hv
section
variable {prog : Program} {w : World} {A : Around} {E : Value → Shared → Prop} {s : Shared} {h₀ : Heap} {L d : Addr} {m : Str → Option Value} {news : List (Addr × Obj)} {o : Obj} {kvs : List (Str × Value)} {Q : Value → Shared → Prop}
theorem my_list (hh : A.handled = none) (F : Fr h₀ L s.heap m) (N : News h₀ L s.heap news) (hp : (d, o) ∈ news) (hd : o.IsDictOf (PySem.strKind prog w) kvs) (lo : (d == sysModules) = false) (hn : kvs.length ≤ sizeLine)
    (h : ∀ (B : Addr) c h' tk (vs : List Value), vs.length = kvs.length → (∀ (j : Nat) (v : Value), vs[j]? = some v → ∃ (k : Str) (x : Value) (t : Tok), kvs[j]? = some (k, x) ∧ v = Value.str k t) → Fr h₀ L h' m → News h₀ L h' ((B, listOf vs.toArray c) :: news) → (∀ q ∈ news, q.1 < B) → Q (.ref B) { s with heap := h', toks := tk }) :
    wpAny (model prog w) A (call (.type "list") [.ref d]) Q E s := by
  obtain ⟨ep, hat⟩ := (kda_dict N hp hd).dictAt
  refine kdl_N (kdl_dict (knd := PySem.strKind prog w) (kvs := kvs) (ep := ep) lo) hh F N hat hn fun B c h' tk vs F' N' l1 hl hv => ?_
  refine h B c h' tk vs hl (fun j u hu => ?_) F' N' l1
  obtain ⟨k, x, hx, hk⟩ := hv j u hu
  obtain ⟨t, e⟩ := Value.isStrOf_shape hk
  exact ⟨k, x, t, hx, e⟩
end
end Mine
namespace Mine
section
variable {prog : Program} {w : World} {A : Around} {E : Value → Shared → Prop} {s : Shared} {env : Env} {h₀ : Heap} {x : Str} {body : List Stmt} {Q : Flow → Shared → Prop}
theorem my_iterM {l : Addr} {vs : List Value} {c : Nat} {m₀ : Str → Option Value} {news : List (Addr × Obj)} (J : (Str → Option Value) → Nat → (Str → Option Value) → List (Addr × Obj) → Prop)
    (hh : A.handled = none) (F : Fr h₀ env.locals s.heap m₀) (N : News h₀ env.locals s.heap ((l, listOf vs.toArray c) :: news)) (hoff : ∀ p ∈ news, p.1 ≠ l) (news' : List (Addr × Obj)) (hsub : ∀ p ∈ news', p ∈ news) (hj : J m₀ 0 m₀ news')
    (turn : ∀ i v m₁ nx h tk own, vs[i]? = some v → NoTup own → OwnOff own (nx.map (·.1)) → J m₀ i m₁ nx → Fr h₀ env.locals h (fun y => if y = x then some v else m₁ y) → News h₀ env.locals h (nx ++ own) →
      wpAny (model prog w) A (execs body env) (InvPostG h₀ env.locals (J m₀ (i + 1)) own { s with heap := h, toks := tk } Q) E { s with heap := h, toks := tk })
    (done : ∀ m₁ nx h tk, J m₀ vs.length m₁ nx → Fr h₀ env.locals h m₁ → News h₀ env.locals h nx → Q .next { s with heap := h, toks := tk }) :
    wpAny (model prog w) A (pyIter (.ref l)) (fun it s₂ => LoopAtV prog w A h₀ env x body Q E it s₂) E s :=
  my_iter (J m₀) hh F (news_sub N (fun p hp => by rcases List.mem_cons.mp hp with rfl | hp; (· exact .head _); (· exact .tail _ (hsub p hp)))) (fun p hp => hoff p (hsub p hp)) hj turn done
end
theorem ne_of_notin {names : List Str} {z x : Str} (hz : names.contains z = false) (hx : names.contains x = true) : z ≠ x := fun e => by rw [e, hx] at hz; cases hz
def JPro (w : World) (ks : List Str) (c : Str) (t auto : Int) (f : Tab) (lk : Addr) (fixed rest : List (Addr × Obj)) (names : List Str) (m₀ : Str → Option Value) (i : Nat) (m₁ : Str → Option Value) (nx : List (Addr × Obj)) : Prop :=
  ∃ ol' add, (∀ p ∈ add, p.2.cls = .type "tuple") ∧ nx = (lk, ol') :: (add ++ (fixed ++ rest)) ∧ OwnOff (add ++ (fixed ++ rest)) [lk] ∧ DictTab w (add ++ rest) ol' (proI ks c t auto f i) ∧ ∀ z, names.contains z = false → m₁ z = m₀ z
theorem pro_close {h₀ h' : Heap} {L lk : Addr} {m' m₀ : Str → Option Value} {news' own fixed rest add : List (Addr × Obj)} (add2 : List (Addr × Obj)) {w : World} {ks : List Str} {c : Str} {t auto : Int} {f : Tab} {names : List Str} {i : Nat} {ol' ol'' : Obj} {s₁ : Shared} {tk : Nat}
    (F : Fr h₀ L h' m') (N : News h₀ L h' news') (hnt : NoTup own) (hoff2 : OwnOff own (((lk, ol') :: (add ++ (fixed ++ rest))).map (·.1))) (hof : OwnOff (add ++ (fixed ++ rest)) [lk]) (ht : ∀ p ∈ add, p.2.cls = .type "tuple") (ht2 : ∀ p ∈ add2, p.2.cls = .type "tuple")
    (h1 : ∀ p ∈ add2, p ∈ news') (h2 : (lk, ol'') ∈ news') (h3 : ∀ p ∈ (add ++ (fixed ++ rest)) ++ own, p ∈ news')
    (hD : DictTab w (add2 ++ (add ++ rest)) ol'' (proI ks c t auto f (i + 1))) (hm : ∀ z, names.contains z = false → m' z = m₀ z) :
    InvEndG h₀ L (JPro w ks c t auto f lk fixed rest names m₀ (i + 1)) own s₁ { s₁ with heap := h', toks := tk } := by
  have hc : ol''.cls = .type "dict" := by obtain ⟨_, a, _⟩ := hD; exact dict_cls a
  refine InvEndG.intro (nx := (lk, ol'') :: ((add2 ++ add) ++ (fixed ++ rest))) F N ⟨ol'', add2 ++ add, ?_, rfl, ?_, ?_, hm⟩ ?_ ?_ ?_
  · intro p hp
    rcases List.mem_append.mp hp with hp | hp
    · exact ht2 p hp
    · exact ht p hp
  · intro p hp b hb
    rw [List.mem_singleton.mp hb]
    rw [List.append_assoc] at hp
    rcases List.mem_append.mp hp with hp | hp
    · exact news_ne N (h1 p hp) h2 (ne_cls (by rw [ht2 p hp, hc]; simp))
    · exact hof p hp lk (List.mem_singleton.mpr rfl)
  · rw [List.append_assoc]; exact hD
  · intro p hp b hb
    obtain ⟨q, hq, rfl⟩ := List.mem_map.mp hb
    rcases List.mem_cons.mp hq with rfl | hq
    · exact hoff2 p hp _ (by simp)
    · rw [List.append_assoc] at hq
      rcases List.mem_append.mp hq with hq | hq
      · exact news_ne N (h3 p (List.mem_append.mpr (.inr hp))) (h1 q hq) (ne_cls (by rw [ht2 q hq]; exact hnt p hp))
      · exact hoff2 p hp _ (List.mem_map.mpr ⟨q, .tail _ hq, rfl⟩)
  · intro p hp
    rcases List.mem_cons.mp hp with rfl | hp
    · exact h2
    · rw [List.append_assoc] at hp
      rcases List.mem_append.mp hp with hp | hp
      · exact h1 p hp
      · exact h3 p (List.mem_append.mpr (.inl hp))
  · intro p hp
    exact h3 p (List.mem_append.mpr (.inr hp))
theorem proOne_exp {c c' : Str} {t t' auto : Int} (h : auto < t - t') : proOne c t auto (some (c', t')) = none := by simp [proOne, h]
theorem proOne_same {c c' : Str} {t t' auto : Int} (h : ¬ auto < t - t') (e : (c' == c) = true) : proOne c t auto (some (c', t')) = some (c, t) := by simp only [proOne, if_neg h, if_pos (beq_iff_eq.mp e)]
theorem proOne_other {c c' : Str} {t t' auto : Int} (h : ¬ auto < t - t') (e : (c' == c) = false) : proOne c t auto (some (c', t')) = some (c', t') := by simp only [proOne, if_neg h, if_neg (beq_eq_false_iff_ne.mp e)]
section
variable {w : World} {ks : List Str} {c c' k : Str} {t t' auto : Int} {f : Tab} {i : Nat} {kvs : List (Str × Value)} {nx : List (Addr × Obj)} {o : Obj}
theorem dt_exp (hk : ks[i]? = some k) (e : f k = some (c', t')) (h : auto < t - t') (hd : o.IsDictOf (PySem.strKind prg w) (PySem.without kvs k)) (hT : TabRel nx kvs (proI ks c t auto f i)) (hkeys : ∀ p ∈ kvs, isLock p.1) : DictTab w nx o (proI ks c t auto f (i + 1)) := by
  refine ⟨_, hd, ?_, mem_without (P := isLock) hkeys⟩
  rw [proI_succ hk, e, proOne_exp h]
  exact tab_del hT
theorem dt_same {D : Addr} {n : Nat} {a b : Tok} (hk : ks[i]? = some k) (e : f k = some (c', t')) (h : ¬ auto < t - t') (h2 : (c' == c) = true) (hd : o.IsDictOf (PySem.strKind prg w) (PySem.stored kvs k (.ref D))) (hT : TabRel nx kvs (proI ks c t auto f i)) (hkeys : ∀ p ∈ kvs, isLock p.1) (hl : isLock k) :
    DictTab w ([(D, tupOf [.str c a, .int t b] n)] ++ nx) o (proI ks c t auto f (i + 1)) := by
  refine ⟨_, hd, ?_, mem_stored (P := isLock) hkeys hl⟩
  rw [proI_succ hk, e, proOne_same h h2]
  exact tab_store (hT.mono fun p hp _ => List.mem_cons_of_mem _ hp) (List.mem_cons_self ..)
theorem dt_other (hk : ks[i]? = some k) (hn : proI ks c t auto f i k = f k) (e : f k = some (c', t')) (h : ¬ auto < t - t') (h2 : (c' == c) = false) (hd : o.IsDictOf (PySem.strKind prg w) kvs) (hT : TabRel nx kvs (proI ks c t auto f i)) (hkeys : ∀ p ∈ kvs, isLock p.1) : DictTab w nx o (proI ks c t auto f (i + 1)) := by
  refine ⟨_, hd, ?_, hkeys⟩
  have : proI ks c t auto f (i + 1) = proI ks c t auto f i := by
    rw [proI_succ hk, e, proOne_other h h2]
    funext x
    by_cases q : x = k
    · rw [if_pos q, q, hn, e]
    · rw [if_neg q]
  rw [this]; exact hT
theorem dt_none (hk : ks[i]? = some k) (hn : proI ks c t auto f i k = f k) (e : f k = none) (hd : DictTab w nx o (proI ks c t auto f i)) : DictTab w nx o (proI ks c t auto f (i + 1)) := by
  have : proI ks c t auto f (i + 1) = proI ks c t auto f i := by
    rw [proI_succ hk, e]
    funext x
    by_cases q : x = k
    · rw [if_pos q, q, hn, e]; rfl
    · rw [if_neg q]
  rw [this]; exact hd
end
theorem nodup_keys {w : World} {o : Obj} {kvs : List (Str × Value)} (h : o.IsDictOf (PySem.strKind prg w) kvs) : (kvs.map (·.1)).Nodup := by obtain ⟨_, _, _, _, _, _, hn⟩ := h; exact hn
end Mine
namespace Mine
theorem my_getItem {prog : Program} {w : World} {K : Type} [DecidableEq K] {knd : KeyKind prog w K} {A : Around} {E : Value → Shared → Prop} {s : Shared} {h₀ : Heap} {L d : Addr} {news : List (Addr × Obj)} {o : Obj} {kvs : List (K × Value)} {k : K} {key v : Value} {Q : Value → Shared → Prop}
    (N : News h₀ L s.heap news) (hp : (d, o) ∈ news) (hd : o.IsDictOf knd kvs) (hkey : knd.is k key = true) (hl : PySem.valueAt kvs k = some v) (h : Q v { s with toks := s.toks + 1 }) :
    wpAny (model prog w) A (getItem (.ref d) key) Q E s := wpAny_getItem_of hkey (kda_dict N hp hd).mapOf hl h
end Mine
namespace Mine
section
variable {prog : Program} {w : World} {A : Around} {E : Value → Shared → Prop} {s : Shared} {h₀ : Heap} {L l : Addr} {news : List (Addr × Obj)} {us : List Value} {n : Nat} {k : Int} {u : Tok} {v : Value} {Q : Value → Shared → Prop}
theorem my_getAt (N : News h₀ L s.heap news) (hm : (l, listOf us.toArray n) ∈ news) (h0 : 0 ≤ k) (h1 : k < 3) (hx : us[k.toNat]? = some v) (h : Q v s) : wpAny (model prog w) A (getItem (.ref l) (.int k u)) Q E s := by
  have hl : s.heap.IsList l us.toArray := ⟨_, (N _ hm).1, rfl, n, rfl⟩
  exact wpAny_getItem_list hl h0 (by omega) (by simpa using hx) h
theorem my_item {value slice : PySem.Expr} (N : News h₀ L s.heap news) (hm : (l, listOf us.toArray n) ∈ news) (h0 : 0 ≤ k) (h1 : k < 3) (hx : us[k.toNat]? = some v) (h : Q v s)
    (hs : subscripted slice false (.ref l) (.int k u) = operate [.ref l, .int k u] (getItem (.ref l) (.int k u)) := by with_unfolding_all rfl) :
    wpAny (model prog w) A (subscriptTail value slice (.ref l) (.int k u)) Q E s := by
  have hl : s.heap.IsList l us.toArray := ⟨_, (N _ hm).1, rfl, n, rfl⟩
  exact tail_any hl.typeIs slot_list_getitem.lookup (my_getAt N hm h0 h1 hx h) hs
end
theorem fr_known {h₀ h : Heap} {L : Addr} {m : Str → Option Value} (ps : List (Str × Value)) (hp : ∀ p ∈ ps, m p.1 = some p.2) (F : Fr h₀ L h m) : Fr h₀ L h (kstB m ps) := by
  have e : kstB m ps = m := by funext z; exact kstB_eq hp fun _ => rfl
  rw [e]; exact F
theorem kst_back {m : Str → Option Value} {ps : List (Str × Value)} (hp : ∀ p ∈ ps, m p.1 = some p.2) : kstB m ps = m := by funext z; exact kstB_eq hp fun _ => rfl
def nmS : Nat → Str
  | 0 => Str.ofString "a"
  | 1 => Str.ofString "b"
  | _ => Str.ofString "c"
theorem three_at {α : Type} {a b c : α} (P : Nat → α → Prop) (h0 : P 0 a) (h1 : P 1 b) (h2 : P 2 c) {k : Nat} (hk : k < 3) : ∃ v, [a, b, c][k]? = some v ∧ P k v := by
  rcases k with _ | _ | _ | k
  · exact ⟨a, rfl, h0⟩
  · exact ⟨b, rfl, h1⟩
  · exact ⟨c, rfl, h2⟩
  · omega
end Mine
namespace Mine
theorem fr_back {h₀ h : Heap} {L : Addr} {m : Str → Option Value} {ps : List (Str × Value)} (hp : ∀ p ∈ ps, m p.1 = some p.2) (F : Fr h₀ L h (kstB m ps)) : Fr h₀ L h m := by rw [kst_back hp] at F; exact F
theorem all1 {m : Str → Option Value} {x : Str} {v : Value} (h : m x = some v) : ∀ p ∈ [(x, v)], m p.1 = some p.2 := fun p hp => by rw [List.mem_singleton.mp hp]; exact h
theorem allC {m : Str → Option Value} {x : Str} {v : Value} {l : List (Str × Value)} (h : m x = some v) (r : ∀ p ∈ l, m p.1 = some p.2) : ∀ p ∈ (x, v) :: l, m p.1 = some p.2 := List.forall_mem_cons.mpr ⟨h, r⟩
end Mine
namespace Mine
def updT (t : Nat → Tok) (i : Nat) (x : Tok) : Nat → Tok := fun j => if j = i then x else t j
end Mine
namespace Mine
theorem own_of {R : List (Addr × Obj)} {b : Addr} (h : ∀ p ∈ R, p.1 ≠ b) : OwnOff R [b] := fun p hp c hc => by rw [List.mem_singleton.mp hc]; exact h p hp
theorem nodup_off {pre post : List Addr} {b : Addr} (h : (pre ++ b :: post).Nodup) : ∀ a ∈ pre ++ post, @Ne Nat a b := by
  intro a ha e
  have e' : a = b := e
  subst e'
  rw [List.nodup_append] at h
  obtain ⟨h1, h2, h3⟩ := h
  rcases List.mem_append.mp ha with q | q
  · exact h3 _ q _ (List.mem_cons_self ..) rfl
  · exact (List.nodup_cons.mp h2).1 q
end Mine
namespace Mine
theorem off_add {h₀ h : Heap} {L b : Addr} {nx add rest : List (Addr × Obj)} {o : Obj} (N : News h₀ L h nx) (ht : ∀ p ∈ add, p.2.cls = .type "tuple") (hs : ∀ p ∈ add, p ∈ nx) (hb : (b, o) ∈ nx) (hc : o.cls ≠ .type "tuple") (hr : OwnOff rest [b]) : OwnOff (add ++ rest) [b] := by
  refine own_of fun p hp => ?_
  rcases List.mem_append.mp hp with hp | hp
  · exact news_ne N (hs p hp) hb (ne_cls (by rw [ht p hp]; exact fun e => hc e.symm))
  · exact hr p hp b (List.mem_singleton.mpr rfl)
theorem tup_app {a b : List (Addr × Obj)} (ha : ∀ p ∈ a, p.2.cls = .type "tuple") (hb : ∀ p ∈ b, p.2.cls = .type "tuple") : ∀ p ∈ a ++ b, p.2.cls = .type "tuple" := fun p hp => (List.mem_append.mp hp).elim (ha p) (hb p)
end Mine
namespace Mine
def NotTup (p : Addr × Obj) : Prop := ∀ vs n, p.2 ≠ tupOf vs n
theorem nt_cls {p : Addr × Obj} (h : p.2.cls ≠ .type "tuple") : NotTup p := fun vs n e => h (by rw [e])
theorem nt_cell {p : Addr × Obj} {v : Option Value} (h : p.2.data = .cell v) : NotTup p := fun vs n e => by rw [e] at h; cases h
theorem tab_mono2 {nx nx' : List (Addr × Obj)} {kvs : List (Str × Value)} {f : Tab} (h : TabRel nx kvs f) (hs : ∀ a vs n, (a, tupOf vs n) ∈ nx → (a, tupOf vs n) ∈ nx') : TabRel nx' kvs f := by
  intro l
  have := h l
  cases e : f l with
  | none => rw [e] at this; exact this
  | some p => rw [e] at this; obtain ⟨a, n, t1, t2, q, r⟩ := this; exact ⟨a, n, t1, t2, q, hs _ _ _ r⟩
theorem DictTab.mono2 {w nx nx' o f} (h : DictTab w nx o f) (hs : ∀ a vs n, (a, tupOf vs n) ∈ nx → (a, tupOf vs n) ∈ nx') : DictTab w nx' o f := by
  obtain ⟨kvs, a, b, c⟩ := h
  exact ⟨kvs, a, tab_mono2 b hs, c⟩
theorem only_tuples {w : World} {add W rest : List (Addr × Obj)} {o : Obj} {f : Tab} (h : DictTab w (add ++ (W ++ rest)) o f) (hW : ∀ p ∈ W, NotTup p) : DictTab w (add ++ rest) o f := by
  refine h.mono2 fun a vs n hm => ?_
  rcases List.mem_append.mp hm with hm | hm
  · exact List.mem_append_left _ hm
  · rcases List.mem_append.mp hm with hm | hm
    · exact absurd rfl (hW _ hm vs n)
    · exact List.mem_append_right _ hm
theorem dict_obj_cls {w nx o f} (h : DictTab w nx o f) : o.cls = .type "dict" := by obtain ⟨_, a, _⟩ := h; exact dict_cls a
end Mine
namespace Mine
theorem pick_from (us : List Value) {x : Int} (h : 0 ≤ x) : slicePick us.toArray (some x) none none = (us.drop x.toNat).toArray := by
  rw [kms_pick_eq]
  congr 1
  have hx : ¬ x < 0 := by omega
  simp only [kms_pick, kms_lo, kms_hi, if_neg hx, List.toList_toArray]
  rw [kmk_drop_min]
  apply List.take_of_length_le
  rw [List.length_drop]; omega
theorem pick_run2 (us : List Value) {x y : Int} (h : 0 ≤ x) (h2 : 0 ≤ y) : slicePick us.toArray (some x) (some y) none = ((us.drop x.toNat).take (y.toNat - x.toNat)).toArray := by
  rw [kms_pick_eq]
  congr 1
  have hx : ¬ x < 0 := by omega
  have hy : ¬ y < 0 := by omega
  simp only [kms_pick, kms_lo, kms_hi, if_neg hx, if_neg hy, List.toList_toArray]
  rw [kmk_drop_min]
  by_cases hc : y.toNat - x.toNat ≤ us.length - x.toNat
  · by_cases hd : x.toNat ≤ us.length
    · congr 1; omega
    · rw [List.drop_of_length_le (by omega)]; simp
  · rw [List.take_of_length_le (i := y.toNat - x.toNat) (by rw [List.length_drop]; omega)]
    apply List.take_of_length_le
    rw [List.length_drop]; omega
section
variable {prog : Program} {w : World} {A : Around} {E : Value → Shared → Prop} {s : Shared} {h₀ : Heap} {L l b : Addr} {m : Str → Option Value} {news : List (Addr × Obj)} {value slice : PySem.Expr} {us ws : List Value} {n nb : Nat} {vl vu : Value} {x y : Int} {Q : Value → Shared → Prop}
theorem my_from (F : Fr h₀ L s.heap m) (N : News h₀ L s.heap news) (hm : (l, listOf us.toArray n) ∈ news) (pl : IsPart vl (some x)) (pu : IsPart vu none) (h0 : 0 ≤ x) (hz : us.length ≤ 1000)
    (h : ∀ D h', Fr h₀ L h' m → News h₀ L h' ((D, listOf (us.drop x.toNat).toArray 0) :: news) → (∀ p ∈ news, p.1 < D) → Q (.ref D) { s with heap := h' })
    (hs : subscripted slice false (.ref l) (.ref s.heap.objs.size) = operate [.ref s.heap.objs.size, .ref l] (getItem (.ref l) (.ref s.heap.objs.size))) (ht : ∀ r, letTemporaryGo value (.ref l) r = pure ()) :
    wpAny (model prog w) A (subscriptTail value slice (.ref l) (.ref s.heap.objs.size)) Q E { s with heap := s.heap.push { cls := .type "slice", data := .fields #[vl, vu, .none] } } := by
  have hl : s.heap.IsList l us.toArray := ⟨_, (N _ hm).1, rfl, n, rfl⟩
  refine kmk_slice F N hl pl pu (fun D h' F' N' l1 => ?_) hs ht (by rw [sizeLine_eq, List.size_toArray]; omega)
  rw [pick_from us h0] at N'
  exact h D h' F' N' l1
theorem my_run (F : Fr h₀ L s.heap m) (N : News h₀ L s.heap news) (hm : (l, listOf us.toArray n) ∈ news) (pl : IsPart vl (some x)) (pu : IsPart vu (some y)) (h0 : 0 ≤ x) (h1 : 0 ≤ y) (hz : us.length ≤ 1000)
    (h : ∀ D h', Fr h₀ L h' m → News h₀ L h' ((D, listOf ((us.drop x.toNat).take (y.toNat - x.toNat)).toArray 0) :: news) → (∀ p ∈ news, p.1 < D) → Q (.ref D) { s with heap := h' })
    (hs : subscripted slice false (.ref l) (.ref s.heap.objs.size) = operate [.ref s.heap.objs.size, .ref l] (getItem (.ref l) (.ref s.heap.objs.size))) (ht : ∀ r, letTemporaryGo value (.ref l) r = pure ()) :
    wpAny (model prog w) A (subscriptTail value slice (.ref l) (.ref s.heap.objs.size)) Q E { s with heap := s.heap.push { cls := .type "slice", data := .fields #[vl, vu, .none] } } := by
  have hl : s.heap.IsList l us.toArray := ⟨_, (N _ hm).1, rfl, n, rfl⟩
  refine kmk_slice F N hl pl pu (fun D h' F' N' l1 => ?_) hs ht (by rw [sizeLine_eq, List.size_toArray]; omega)
  rw [pick_run2 us h0 h1] at N'
  exact h D h' F' N' l1
theorem my_cat (F : Fr h₀ L s.heap m) (N : News h₀ L s.heap news) (hm : (l, listOf us.toArray n) ∈ news) (hb : (b, listOf ws.toArray nb) ∈ news) (hz : us.length ≤ 1000) (hz2 : ws.length ≤ 1000)
    (h : ∀ D h', Fr h₀ L h' m → News h₀ L h' ((D, listOf (us ++ ws).toArray 0) :: news) → (∀ p ∈ news, p.1 < D) → Q (.ref D) { s with heap := h' }) :
    wpAny (model prog w) A (binaryOp .Add (.ref l) (.ref b)) Q E s :=
  add_lists (hsz := by rw [sizeLine_eq]; omega) F N ⟨_, (N _ hm).1, rfl, n, rfl⟩ ⟨_, (N _ hb).1, rfl, nb, rfl⟩ fun h' F' N' => h _ h' F' N' fun p hp => Heap.lt_size (N p hp).1
end
section
variable {prog : Program} {w : World} {A : Around} {E : Value → Shared → Prop} {s : Shared} {h₀ : Heap} {L a b : Addr} {news : List (Addr × Obj)} {xs ys : List Value} {na nb : Nat} {ds : List Dat} {x : Value} {d : Dat} {Q : Value → Shared → Prop}
theorem my_neq (N : News h₀ L s.heap news) (ha : (a, listOf xs.toArray na) ∈ news) (hb : (b, listOf ys.toArray nb) ∈ news) (Da : DatAll news xs ds) (Db : DatAll news ys ds) (ok : ∀ d ∈ ds, kqdOk 8 d = true) (hu : A.units + 64 < cLine) (h : Q (.bool false) s) :
    wpAny (model prog w) A (compareOp .NotEq (.ref a) (.ref b)) Q E s :=
  kqd_ne N ha rfl rfl Da (fun _ h => h) hb rfl rfl Db (fun _ h => h) ok ok hu (by simpa using h)
open Classical in
theorem my_notIn (N : News h₀ L s.heap news) (ha : (a, listOf xs.toArray na) ∈ news) (Da : DatAll news xs ds) (Dx : DatIn news x d) (ok : ∀ d ∈ ds, kqdOk 8 d = true) (okd : kqdOk 8 d = true) (hu : A.units + 64 < cLine) (h : Q (.bool (!decide (d ∈ ds))) s) :
    wpAny (model prog w) A (compareOp .NotIn x (.ref a)) Q E s :=
  kqd_notIn N ha rfl rfl Da (fun _ h => h) Dx (fun _ h => h) ok okd hu h
end
end Mine
namespace Mine
section
variable {prog : Program} {w : World} {A : Around} {E : Value → Shared → Prop} {s : Shared} {a b : Int} {t u : Tok} {Q : Value → Shared → Prop}
theorem my_eqT (e : a = b) (h : Q (.bool true) s) : wpAny (model prog w) A (compareOp .Eq (.int a t) (.int b u)) Q E s := eq_int (by rw [show (a == b) = true from by simpa using e]; exact h)
theorem my_eqF (e : a ≠ b) (h : Q (.bool false) s) : wpAny (model prog w) A (compareOp .Eq (.int a t) (.int b u)) Q E s := eq_int (by rw [show (a == b) = false from by simpa using e]; exact h)
end
end Mine
namespace Mine
local macro_rules | `(tactic| walk_at "getMethod ref") => `(tactic| (k_here; (with_reducible show wpAny _ _ (getMethod (Value.ref _) (Str.ofString "get") _) _ _ _); k_dflt (refine kdg_method (knd := PySem.strKind _ _) (by k_asm) (by k_mem) (by k_asm) ?_)))
local macro_rules | `(tactic| walk_at "call builtin:dict.get") => `(tactic| (k_here; k_dflt (refine kdg_get2 (knd := PySem.strKind _ _) (by k_asm) (by k_mem) (by k_asm) (by k_asm) (strKind_is _ _ _ _) _ (by assumption) ?_); (try dsimp only [Option.getD])))
local macro_rules | `(tactic| walk_at "setItem ref str") => `(tactic| (k_here; k_dflt (refine' kda_set (knd := PySem.strKind _ _) ?F ?N ?U ?d (strKind_is _ _ _ _) ?z ?_; (case F => k_asm); (case N => k_asm); (case U => k_updF); (case d => k_asm); (case z => assumption)); intro h' o' F' N' hd'; (try dsimp only at N'); (try k_sweep)))
local macro_rules | `(tactic| walk_at "delItem ref str") => `(tactic| (k_here; k_dflt (refine' my_del (knd := PySem.strKind _ _) (strKind_is _ _ _ _) ?F ?N ?U ?d ?z ?l ?_; (case F => k_asm); (case N => k_asm); (case U => k_updF); (case d => k_asm); (case z => assumption); (case l => assumption)); intro h' o' F' N' hd'; (try dsimp only at N'); (try k_sweep)))
local macro_rules | `(tactic| walk_at "call builtin:dict.pop") => `(tactic| (k_here; (with_reducible show wpAny _ _ (call (Value.builtin "dict.pop") [Value.ref _, Value.str _ _]) _ _ _); k_dflt (refine' my_pop (knd := PySem.strKind _ _) (strKind_is _ _ _ _) (by rfl) ?F ?N ?U ?d ?z ?l ?_; (case F => k_asm); (case N => k_asm); (case U => k_updF); (case d => k_asm); (case z => assumption); (case l => assumption)); intro h' o' F' N' hd'; (try dsimp only at N'); (try k_sweep)))
local macro_rules | `(tactic| walk_at "compareOp In str ref") => `(tactic| (k_here; k_dflt (refine kda_in (knd := PySem.strKind _ _) (by k_asm) (by k_mem) (by k_asm) (by k_asm) (strKind_is _ _ _ _) _ (by assumption) ?_)))
local macro_rules | `(tactic| walk_at "subscriptTail") => `(tactic| (k_here; (with_reducible show wpAny _ _ (subscriptTail _ _ (Value.ref _) (Value.str _ _)) _ _ _); k_dflt (refine kda_item (knd := PySem.strKind _ _) (by k_asm) (by k_mem) (by k_asm) (strKind_is _ _ _ _) (by assumption) ?_)))
local macro_rules | `(tactic| walk_at "exec For Name List cons nil") => `(tactic| (k_here; (rename Fr _ _ _ _ => lF'); (with_unfolding_all refine' For_invVF lF' ?k1 ?k2 ?_; (case k1 => exact rfl); (case k2 => exact rfl); k_whole)))
local macro_rules | `(tactic| walk_at "exec For Name Call cons nil") => `(tactic| (k_here; (rename Fr _ _ _ _ => lF'); (with_unfolding_all refine' For_invVF lF' ?k1 ?k2 ?_; (case k1 => exact rfl); (case k2 => exact rfl); k_whole)))
set_option hygiene false in
local macro_rules | `(tactic| walk_at "call type:list") => `(tactic| (k_here; k_dflt (refine my_list (by rfl) (by k_asm) (by k_asm) (by k_mem) (by k_asm) (by k_asm) (by assumption) ?_); intro B9 c9 h9 tk9 vs9 hlen9 hvs9 F9 N9 l9))
local macro_rules | `(tactic| walk_at "getItem ref str") => `(tactic| (k_here; k_dflt (refine my_getItem (knd := PySem.strKind _ _) (by k_asm) (by k_mem) (by k_asm) (strKind_is _ _ _ _) (by assumption) ?_)))
local macro_rules | `(tactic| walk_at "pyIter ref") => `(tactic| (refine stop_intro ?_))
set_option hygiene false in
local macro_rules | `(tactic| walk_at "InvEndG") => `(tactic| ((rename Fr _ _ _ _ => F8); (rename News _ _ _ _ => N8); refine stop_intro ?_))
section
variable {w : World} {h₀ : Heap} {L fa : Addr} {cd : Value} {mg mb : Str → Option Value} {mean : ExcName → Option Value} {E : Value → Shared → Prop} {Q : Value → Shared → Prop} {s : Shared} {m : Str → Option Value} {rest : List (Addr × Obj)}
  {mgr md im di lk g gd sn dd tb : Addr} {ol : Obj} {t : Nat → Tok} {t1 t2 t3 x1 x2 x3 x4 x5 : Tok} {auto now last t0 : Int} {nm l c : Str} {f : Tab} {k : Nat}
variable (KX : (Mine.hd.heap_1 w.params).In h₀) (T : Top viewQ (looseW viewQ []) mean mg mb h₀) (B : Below callerA h₀ [] h₀) (F : Fr h₀ L s.heap m)
include KX T B F
set_option maxHeartbeats 4000000 in
theorem c_apPro
    (N : News h₀ L s.heap ((dd, tupOf [.str (Str.ofString "prolongate") x1, .str c x3, .int t0 x4] k) :: (mgr, instObj 143 md) :: (md, mdD w t im nm auto g last sn) :: (im, instObj 66 di) :: (di, imD w t1 t2 t3 lk auto) :: (lk, ol) :: rest))
    (hol : DictTab w rest ol f) (lo : (lk == sysModules) = false) (hoff : OwnOff rest [lk]) (hne1 : @Ne Nat md lk) (hne2 : @Ne Nat di lk)
    (hk : ∀ h' tk ol' add, Fr h₀ L h' m → (∀ p ∈ add, p.2.cls = .type "tuple") → News h₀ L h' (add ++ (dd, tupOf [.str (Str.ofString "prolongate") x1, .str c x3, .int t0 x4] k) :: (mgr, instObj 143 md) :: (md, mdD w t im nm auto g last sn) :: (im, instObj 66 di) :: (di, imD w t1 t2 t3 lk auto) :: (lk, ol') :: rest) →
      DictTab w (add ++ rest) ol' (proTab f c t0 auto) → Q .none { s with heap := h', toks := tk }) :
    wpAny (model prg w) (lawA L fa cd) (call (.ref 126) [.ref mgr, .ref dd] []) Q E s := by
  obtain ⟨heap, gens, drawn, toks, os⟩ := s
  obtain ⟨kvs, hd, hT, hkeys⟩ := hol
  have hMk := kstMark
  have hsz := dict_line (dict_len hd hkeys)
  have hdc := dict_cls hd
  have e1 : @Ne Nat mgr lk := news_ne N (by k_mem) (by k_mem) (ne_cls (by simp [hdc]))
  have e2 : @Ne Nat im lk := news_ne N (by k_mem) (by k_mem) (ne_cls (by simp [hdc]))
  have e3 : @Ne Nat dd lk := news_ne N (by k_mem) (by k_mem) (ne_cls (by simp [hdc]))
  dsimp only at F N hk ⊢
  unfold prg at *; revert KX; k_fill; intro KX; w_top off
  k_steps
  unfold Stop
  refine my_iterM (JPro w (kvs.map (·.1)) c t0 auto f lk [(dd, tupOf [.str (Str.ofString "prolongate") x1, .str c x3, .int t0 x4] k), (mgr, instObj 143 md), (md, mdD w t im nm auto g last sn), (im, instObj 66 di), (di, imD w t1 t2 t3 lk auto)] rest [Str.ofString "lockID", Str.ofString "lockClientID", Str.ofString "lockTime"]) (by rfl) F9 N9 (fun p hp => Nat.ne_of_lt (l9 p hp)) ((lk, ol) :: ([] ++ ([(dd, tupOf [.str (Str.ofString "prolongate") x1, .str c x3, .int t0 x4] k), (mgr, instObj 143 md), (md, mdD w t im nm auto g last sn), (im, instObj 66 di), (di, imD w t1 t2 t3 lk auto)] ++ rest))) ?_ ?_ ?_ ?_
  · intro p hp
    simp only [List.mem_append, List.mem_cons, List.not_mem_nil, or_false, false_or] at hp ⊢
    grind
  · refine ⟨ol, [], no_tuple, rfl, ?_, ?_, fun _ _ => rfl⟩
    · intro p hp b hb
      rw [List.mem_singleton.mp hb]
      simp only [List.mem_append, List.mem_cons, List.not_mem_nil, or_false, false_or] at hp
      rcases hp with (rfl | rfl | rfl | rfl | rfl) | hp
      · exact e3
      · exact e1
      · exact hne1
      · exact e2
      · exact hne2
      · exact hoff p hp lk (List.mem_singleton.mpr rfl)
    · rw [proI_zero]; exact ⟨kvs, hd, hT, hkeys⟩
  · rintro i v m₁ nx h tk own hv hnt hoff2 ⟨ol', add, ht, rfl, hof, ⟨kvs', hd', hT', hkeys'⟩, hm⟩ F₁ N₁
    obtain ⟨k', x, u, hkx, rfl⟩ := hvs9 i v hv
    have hks : (kvs.map (·.1))[i]? = some k' := by simp [hkx]
    have hnd := nodup_keys hd
    have hfk := proI_at (c := c) (t := t0) (auto := auto) (f := f) hnd hks
    have hvk : PySem.valueAt kvs k' = some x := PySem.valueAt_of_get hnd hkx
    cases efk : f k' with
    | none => rw [hT.none efk] at hvk; cases hvk
    | some q =>
      obtain ⟨c', t'⟩ := q
      obtain ⟨a, n, u1, u2, hv', hm'⟩ := hT'.some (hfk.trans efk)
      have hdc' := dict_cls hd'
      have hsz' := dict_line (dict_len hd' hkeys')
      have hi' : (PySem.valueAt kvs' k').isSome = true := by rw [hv']; rfl
      have hl' : isLock k' := by
        obtain ⟨q, hq, rfl⟩ := valueAt_some_mem hvk
        exact hkeys q hq
      have F₂ := fr_canon [Str.ofString "lockID", Str.ofString "lockClientID", Str.ofString "lockTime"] (fun z _ hz => hm z hz) F₁
      have hsub : ∀ p ∈ (a, tupOf [.str c' u1, .int t' u2] n) :: (im, instObj 66 di) :: (di, imD w t1 t2 t3 lk auto) :: (lk, ol') :: ((add ++ ([(dd, tupOf [.str (Str.ofString "prolongate") x1, .str c x3, .int t0 x4] k), (mgr, instObj 143 md), (md, mdD w t im nm auto g last sn), (im, instObj 66 di), (di, imD w t1 t2 t3 lk auto)] ++ rest)) ++ own), p ∈ ((lk, ol') :: (add ++ ([(dd, tupOf [.str (Str.ofString "prolongate") x1, .str c x3, .int t0 x4] k), (mgr, instObj 143 md), (md, mdD w t im nm auto g last sn), (im, instObj 66 di), (di, imD w t1 t2 t3 lk auto)] ++ rest))) ++ own := by
        intro p hp
        have hin : (a, tupOf [.str c' u1, .int t' u2] n) ∈ add ++ ([(dd, tupOf [.str (Str.ofString "prolongate") x1, .str c x3, .int t0 x4] k), (mgr, instObj 143 md), (md, mdD w t im nm auto g last sn), (im, instObj 66 di), (di, imD w t1 t2 t3 lk auto)] ++ rest) := by
          rcases List.mem_append.mp hm' with hm' | hm'
          · exact List.mem_append.mpr (.inl hm')
          · exact List.mem_append.mpr (.inr (List.mem_append.mpr (.inr hm')))
        rcases List.mem_cons.mp hp with rfl | hp
        · exact List.mem_append.mpr (.inl (.tail _ hin))
        · simp only [List.cons_append, List.mem_cons, List.mem_append] at hp ⊢
          grind
      have N2 := news_sub N₁ hsub
      have hofr : OwnOff ((add ++ ([(dd, tupOf [.str (Str.ofString "prolongate") x1, .str c x3, .int t0 x4] k), (mgr, instObj 143 md), (md, mdD w t im nm auto g last sn), (im, instObj 66 di), (di, imD w t1 t2 t3 lk auto)] ++ rest)) ++ own) [lk] := by
        intro p hp b hb
        rw [List.mem_singleton.mp hb]
        rcases List.mem_append.mp hp with hp | hp
        · exact hof p hp lk (List.mem_singleton.mpr rfl)
        · exact hoff2 p hp lk (by simp)
      have e4 : @Ne Nat a lk := news_ne N2 (by k_mem) (by k_mem) (ne_cls (by simp [hdc']))
      generalize hrr : (add ++ ([(dd, tupOf [.str (Str.ofString "prolongate") x1, .str c x3, .int t0 x4] k), (mgr, instObj 143 md), (md, mdD w t im nm auto g last sn), (im, instObj 66 di), (di, imD w t1 t2 t3 lk auto)] ++ rest)) ++ own = rest2 at N2 hofr
      clear N₁ F₁ N9 F9 N l9
      (with_reducible show wpAny _ _ _ _ _ _)
      k_fold
      k_steps
      all_goals (
        unfold Stop
        have hmz : ∀ z, List.contains [Str.ofString "lockID", Str.ofString "lockClientID", Str.ofString "lockTime"] z = false → z ≠ Str.ofString "lockID" ∧ z ≠ Str.ofString "lockClientID" ∧ z ≠ Str.ofString "lockTime" :=
          fun z hz => ⟨ne_of_notin hz (by decide), ne_of_notin hz (by decide), ne_of_notin hz (by decide)⟩)
      · refine pro_close [] F8 N8 hnt hoff2 hof ht no_tuple (fun _ h => nomatch h) (by k_mem) (by rw [hrr]; intro p hp; k_ownIn) (dt_exp hks efk (by assumption) (by assumption) hT' hkeys') ?_
        intro z hz
        obtain ⟨a1, a2, a3⟩ := hmz z hz
        simp only [if_neg a1, if_neg a2, if_neg a3, hz, Bool.false_eq_true, if_false]
        try rfl
      · refine pro_close [(_, tupOf [.str c _, .int t0 _] _)] F8 N8 hnt hoff2 hof ht one_tuple (fun p hp => by rw [List.mem_singleton.mp hp]; exact .head _) (by k_mem) (by rw [hrr]; intro p hp; k_ownIn) (dt_same hks efk (by assumption) (by assumption) (by assumption) hT' hkeys' hl') ?_
        intro z hz
        obtain ⟨a1, a2, a3⟩ := hmz z hz
        simp only [if_neg a1, if_neg a2, if_neg a3, hz, Bool.false_eq_true, if_false]
        try rfl
      · refine pro_close [] F8 N8 hnt hoff2 hof ht no_tuple (fun _ h => nomatch h) (by k_mem) (by rw [hrr]; intro p hp; k_ownIn) (dt_other hks hfk efk (by assumption) (by assumption) hd' hT' hkeys') ?_
        intro z hz
        obtain ⟨a1, a2, a3⟩ := hmz z hz
        simp only [if_neg a1, if_neg a2, if_neg a3, hz, Bool.false_eq_true, if_false]
        try rfl
  · rintro m₁ nx h tk ⟨ol', add, ht, rfl, hof, hD, hm⟩ F₁ N₁
    have hD' : DictTab w (add ++ rest) ol' (proTab f c t0 auto) := by
      rw [hlen9, ← List.length_map (f := (·.1)), proI_all] at hD
      · exact hD
      · intro x hx
        exact tab_none_of hT (valueAt_none_of hx)
    clear N9 F9 N l9
    k_steps
    all_goals exact hk _ _ ol' add (by assumption) ht (news_sub (by assumption) (fun p hp => by simp only [List.mem_append, List.mem_cons, List.not_mem_nil, or_false] at hp ⊢; grind)) hD'
set_option maxHeartbeats 4000000 in
theorem c_deedPro
    (N : News h₀ L s.heap ((dd, tupOf [.str (Str.ofString "prolongate") x1, .str c x3, .int t0 x4] k) :: (tb, ol) :: rest))
    (hol : DictTab w rest ol f) (lo : (tb == sysModules) = false) (hoff : OwnOff rest [tb])
    (hk : ∀ h' tk ol' add, Fr h₀ L h' m → (∀ p ∈ add, p.2.cls = .type "tuple") → News h₀ L h' (add ++ (dd, tupOf [.str (Str.ofString "prolongate") x1, .str c x3, .int t0 x4] k) :: (tb, ol') :: rest) →
      DictTab w (add ++ rest) ol' (proTab f c t0 auto) → Q .none { s with heap := h', toks := tk }) :
    wpAny (model prg w) (lawA L fa cd) (call (.ref 231) [.ref tb, .ref dd, .int auto x5] []) Q E s := by
  obtain ⟨heap, gens, drawn, toks, os⟩ := s
  obtain ⟨kvs, hd, hT, hkeys⟩ := hol
  have hMk := kstMark
  have hsz := dict_line (dict_len hd hkeys)
  have hdc := dict_cls hd
  have e3 : @Ne Nat dd tb := news_ne N (by k_mem) (by k_mem) (ne_cls (by simp [hdc]))
  dsimp only at F N hk ⊢
  unfold prg at *; revert KX; k_fill; intro KX; w_top off
  k_steps
  unfold Stop
  rename Fr _ _ _ _ => F9
  rename News _ _ _ _ => N9
  refine my_iterM (JPro w [lX, lY] c t0 auto f tb [(dd, tupOf [.str (Str.ofString "prolongate") x1, .str c x3, .int t0 x4] k)] rest [Str.ofString "lock"]) (by rfl) F9 N9 ?_ ((tb, ol) :: ([] ++ ([(dd, tupOf [.str (Str.ofString "prolongate") x1, .str c x3, .int t0 x4] k)] ++ rest))) ?_ ?_ ?_ ?_
  · k_all
  · intro p hp
    simp only [List.mem_append, List.mem_cons, List.not_mem_nil, or_false, false_or] at hp ⊢
    grind
  · refine ⟨ol, [], no_tuple, rfl, ?_, ?_, fun _ _ => rfl⟩
    · intro p hp b hb
      rw [List.mem_singleton.mp hb]
      simp only [List.mem_append, List.mem_cons, List.not_mem_nil, or_false, false_or] at hp
      rcases hp with rfl | hp
      · exact e3
      · exact hoff p hp tb (List.mem_singleton.mpr rfl)
    · rw [proI_zero]; exact ⟨kvs, hd, hT, hkeys⟩
  · rintro i v m₁ nx h tk own hv hnt hoff2 ⟨ol', add, ht, rfl, hof, hD, hm⟩ F₁ N₁
    obtain ⟨k', u, hks, rfl⟩ : ∃ k' u, [lX, lY][i]? = some k' ∧ v = .str k' u := by
      rcases i with _ | _ | i
      · exact ⟨lX, _, rfl, (Option.some.inj hv).symm⟩
      · exact ⟨lY, _, rfl, (Option.some.inj hv).symm⟩
      · cases hv
    have hl' : isLock k' := by
      rcases i with _ | _ | i
      · exact .inl (Option.some.inj hks).symm
      · exact .inr (Option.some.inj hks).symm
      · cases hks
    have hnd : [lX, lY].Nodup := by decide
    have hfk := proI_at (c := c) (t := t0) (auto := auto) (f := f) hnd hks
    have F₂ := fr_canon [Str.ofString "lock"] (fun z _ hz => hm z hz) F₁
    have hD0 := hD
    obtain ⟨kvs', hd', hT', hkeys'⟩ := hD
    have hdc' := dict_cls hd'
    have hsz' := dict_line (dict_len hd' hkeys')
    have hofr : OwnOff ((add ++ ([(dd, tupOf [.str (Str.ofString "prolongate") x1, .str c x3, .int t0 x4] k)] ++ rest)) ++ own) [tb] := by
      intro p hp b hb
      rw [List.mem_singleton.mp hb]
      rcases List.mem_append.mp hp with hp | hp
      · exact hof p hp tb (List.mem_singleton.mpr rfl)
      · exact hoff2 p hp tb (by simp)
    have hmz : ∀ z, List.contains [Str.ofString "lock"] z = false → z ≠ Str.ofString "lock" := fun z hz => ne_of_notin hz (by decide)
    cases efk : f k' with
    | none =>
      have hv' := hT'.none (hfk.trans efk)
      have hi' : (PySem.valueAt kvs' k').isSome = false := by rw [hv']; rfl
      have hsub : ∀ p ∈ (tb, ol') :: ((add ++ ([(dd, tupOf [.str (Str.ofString "prolongate") x1, .str c x3, .int t0 x4] k)] ++ rest)) ++ own), p ∈ ((tb, ol') :: (add ++ ([(dd, tupOf [.str (Str.ofString "prolongate") x1, .str c x3, .int t0 x4] k)] ++ rest))) ++ own := fun p hp => hp
      have N2 := news_sub N₁ hsub
      generalize hrr : (add ++ ([(dd, tupOf [.str (Str.ofString "prolongate") x1, .str c x3, .int t0 x4] k)] ++ rest)) ++ own = rest2 at N2 hofr
      clear N₁ F₁ N9 F9 N
      (with_reducible show wpAny _ _ _ _ _ _)
      k_fold
      k_steps
      all_goals unfold Stop
      · refine pro_close [] F8 N8 hnt hoff2 hof ht no_tuple (fun _ h => nomatch h) (by k_mem) (by rw [hrr]; intro p hp; k_ownIn) (dt_none hks hfk efk hD0) ?_
        intro z hz
        have a1 := hmz z hz
        simp only [if_neg a1, hz, Bool.false_eq_true, if_false]
        try rfl
    | some q =>
      obtain ⟨c', t'⟩ := q
      obtain ⟨a, n, u1, u2, hv', hm'⟩ := hT'.some (hfk.trans efk)
      have hi' : (PySem.valueAt kvs' k').isSome = true := by rw [hv']; rfl
      have hsub : ∀ p ∈ (a, tupOf [.str c' u1, .int t' u2] n) :: (dd, tupOf [.str (Str.ofString "prolongate") x1, .str c x3, .int t0 x4] k) :: (tb, ol') :: ((add ++ ([(dd, tupOf [.str (Str.ofString "prolongate") x1, .str c x3, .int t0 x4] k)] ++ rest)) ++ own), p ∈ ((tb, ol') :: (add ++ ([(dd, tupOf [.str (Str.ofString "prolongate") x1, .str c x3, .int t0 x4] k)] ++ rest))) ++ own := by
        intro p hp
        have hin : (a, tupOf [.str c' u1, .int t' u2] n) ∈ add ++ ([(dd, tupOf [.str (Str.ofString "prolongate") x1, .str c x3, .int t0 x4] k)] ++ rest) := by
          rcases List.mem_append.mp hm' with hm' | hm'
          · exact List.mem_append.mpr (.inl hm')
          · exact List.mem_append.mpr (.inr (List.mem_append.mpr (.inr hm')))
        rcases List.mem_cons.mp hp with rfl | hp
        · exact List.mem_append.mpr (.inl (.tail _ hin))
        · simp only [List.cons_append, List.mem_cons, List.mem_append] at hp ⊢
          grind
      have N2 := news_sub N₁ hsub
      have e4 : @Ne Nat a tb := news_ne N2 (by k_mem) (by k_mem) (ne_cls (by simp [hdc']))
      generalize hrr : (add ++ ([(dd, tupOf [.str (Str.ofString "prolongate") x1, .str c x3, .int t0 x4] k)] ++ rest)) ++ own = rest2 at N2 hofr
      clear N₁ F₁ N9 F9 N
      (with_reducible show wpAny _ _ _ _ _ _)
      k_fold
      k_steps
      all_goals unfold Stop
      · refine pro_close [] F8 N8 hnt hoff2 hof ht no_tuple (fun _ h => nomatch h) (by k_mem) (by rw [hrr]; intro p hp; k_ownIn) (dt_exp hks efk (by assumption) (by assumption) hT' hkeys') ?_
        intro z hz
        have a1 := hmz z hz
        simp only [if_neg a1, hz, Bool.false_eq_true, if_false]
        try rfl
      · refine pro_close [(_, tupOf [.str c _, .int t0 _] _)] F8 N8 hnt hoff2 hof ht one_tuple (fun p hp => by rw [List.mem_singleton.mp hp]; exact .head _) (by k_mem) (by rw [hrr]; intro p hp; k_ownIn) (dt_same hks efk (by assumption) (by assumption) (by assumption) hT' hkeys' hl') ?_
        intro z hz
        have a1 := hmz z hz
        simp only [if_neg a1, hz, Bool.false_eq_true, if_false]
        try rfl
      · refine pro_close [] F8 N8 hnt hoff2 hof ht no_tuple (fun _ h => nomatch h) (by k_mem) (by rw [hrr]; intro p hp; k_ownIn) (dt_other hks hfk efk (by assumption) (by assumption) hd' hT' hkeys') ?_
        intro z hz
        have a1 := hmz z hz
        simp only [if_neg a1, hz, Bool.false_eq_true, if_false]
        try rfl
  · rintro m₁ nx h tk ⟨ol', add, ht, rfl, hof, hD, hm⟩ F₁ N₁
    have hD' : DictTab w (add ++ rest) ol' (proTab f c t0 auto) := by
      have hz : proI [lX, lY] c t0 auto f 2 = proTab f c t0 auto := proI_all (ks := [lX, lY]) (fun x hx => by
        cases e : f x with
        | none => rfl
        | some p =>
          exfalso
          rcases DictTab.key ⟨kvs, hd, hT, hkeys⟩ e with r | r
          · exact hx (by simp [r])
          · exact hx (by simp [r]))
      exact hz ▸ hD
    clear N9 F9 N
    k_steps
    all_goals exact hk _ _ ol' add (by assumption) ht (news_sub (by assumption) (fun p hp => by simp only [List.mem_append, List.mem_cons, List.not_mem_nil, or_false] at hp ⊢; grind)) hD'
end
end Mine
namespace Mine
local macro_rules | `(tactic| walk_at "subscriptTail Name Name ref int") => `(tactic| (k_here; (with_reducible show wpAny _ _ (subscriptTail _ _ (Value.ref _) (Value.int _ _)) _ _ _); k_dflt (refine my_item (by k_asm) (by k_mem) (by assumption) (by assumption) (by assumption) ?_)))
def turnBody : List Stmt := match lawBody with | [_, _, _, _, _, .For _ _ b _ _, _] => b | _ => []
def headS : List Stmt := turnBody.take 4
theorem xy_item {z : Int} (h0 : 0 ≤ z) (h1 : z < 2) : isLock (Txt.item (Str.ofString "xy") z) := by
  have : z = 0 ∨ z = 1 := by omega
  rcases this with rfl | rfl
  · exact .inl (by decide)
  · exact .inr (by decide)
section
variable {w : World} {h₀ : Heap} {L fa : Addr} {cd : Value} {mg mb : Str → Option Value} {mean : ExcName → Option Value} {E : Value → Shared → Prop} {Q : Flow → Shared → Prop} {s : Shared} {m : Str → Option Value} {rest : List (Addr × Obj)}
variable (KX : (Mine.hd.heap_1 w.params).In h₀) (T : Top viewQ (looseW viewQ []) mean mg mb h₀) (B : Below callerA h₀ [] h₀)
include KX T B
abbrev headN : List Str := [Str.ofString "rest", Str.ofString "sort", Str.ofString "more", Str.ofString "who", Str.ofString "lock", Str.ofString "far", Str.ofString "name", Str.ofString "due"]
set_option maxHeartbeats 4000000 in
theorem t_head {number : Int} {tn : Tok} {nmL : Addr} {n : Nat} {t0 t1 t2 : Tok}
    (F : Fr h₀ L s.heap m) (hm1 : m (Str.ofString "number") = some (.int number tn)) (hm2 : m (Str.ofString "names") = some (.ref nmL))
    (N : News h₀ L s.heap ((nmL, listOf [.str (nmS 0) t0, .str (nmS 1) t1, .str (nmS 2) t2].toArray n) :: rest))
    (hk : ∀ h' tk m' (so far : Int) (k : Nat) l ts tw tl tf tn' du c, k < 3 → isLock l → 0 ≤ so → 0 ≤ far → Fr h₀ L h' m' → News h₀ L h' ((du, listOf #[] c) :: (nmL, listOf [.str (nmS 0) t0, .str (nmS 1) t1, .str (nmS 2) t2].toArray n) :: rest) → (∀ p ∈ (nmL, listOf [.str (nmS 0) t0, .str (nmS 1) t1, .str (nmS 2) t2].toArray n) :: rest, p.1 ≠ du) →
      (∀ z, headN.contains z = false → m' z = m z) → m' (Str.ofString "sort") = some (.int so ts) → m' (Str.ofString "who") = some (.int k tw) → m' (Str.ofString "lock") = some (.str l tl) → m' (Str.ofString "far") = some (.int far tf) → m' (Str.ofString "name") = some (.str (nmS k) tn') → m' (Str.ofString "due") = some (.ref du) →
      Q .next { s with heap := h', toks := tk }) :
    wpAny (model prg w) (lawA L fa cd) (execs headS (lawEnv L fa cd)) Q E s := by
  obtain ⟨heap, gens, drawn, toks, os⟩ := s
  have hps : ∀ p ∈ [(Str.ofString "number", Value.int number tn), (Str.ofString "names", Value.ref nmL)], m p.1 = some p.2 := by
    intro p hp
    simp only [List.mem_cons, List.not_mem_nil, or_false] at hp
    rcases hp with rfl | rfl
    · exact hm1
    · exact hm2
  have F0 := fr_known _ hps F
  have hw0 : 0 ≤ ((if number < 0 then -number else number).fdiv 8).fmod 3 := fmod_lo _ (by omega)
  have hw1 : ((if number < 0 then -number else number).fdiv 8).fmod 3 < 3 := fmod_hi _ (by omega)
  obtain ⟨k, hkk⟩ := Int.eq_ofNat_of_zero_le hw0
  have hk3 : k < 3 := by omega
  obtain ⟨v, hv, tv, rfl⟩ := three_at (a := Value.str (nmS 0) t0) (b := Value.str (nmS 1) t1) (c := Value.str (nmS 2) t2) (fun k v => ∃ t, v = .str (nmS k) t) ⟨_, rfl⟩ ⟨_, rfl⟩ ⟨_, rfl⟩ hk3
  have hx : [Value.str (nmS 0) t0, Value.str (nmS 1) t1, Value.str (nmS 2) t2][(((if number < 0 then -number else number).fdiv 8).fmod 3).toNat]? = some (.str (nmS k) tv) := by rw [hkk]; exact hv
  clear F
  dsimp only at F0 N hk ⊢
  unfold prg at *; revert KX; k_fill; intro KX; w_top off
  have hMk := kstMark
  show wpAny _ _ (execs (_ :: _ :: _ :: _ :: []) _) _ _ _
  k_steps
  have hlock := xy_item (z := (((if number < 0 then -number else number).fdiv 8).fdiv 3).fmod 2) (fmod_lo _ (by omega)) (fmod_hi _ (by omega))
  have hso : 0 ≤ (if number < 0 then -number else number).fmod 8 := fmod_lo _ (by omega)
  have ha0 : 0 ≤ (if number < 0 then -number else number) := by split <;> omega
  refine' hk _ _ _ _ _ k _ _ _ _ _ _ _ 0 hk3 hlock hso ?f (by assumption) (news_sub (by assumption) ?n) ?ne ?z ?a1 ?a2 ?a3 ?a4 ?a5 ?a6
  case a1 => rfl
  case a2 => exact congrArg (fun z => some (Value.int z _)) hkk
  case a3 => rfl
  case a4 => rfl
  case a5 => rfl
  case a6 => rfl
  case f => exact Int.fdiv_nonneg (Int.fdiv_nonneg ha0 (by omega)) (by omega)
  case n =>
    intro p hp
    rcases List.mem_cons.mp hp with rfl | hp
    · k_mem
    · k_ownIn
  case ne => k_all
  case z =>
    intro z hz
    simp only [if_neg (ne_of_notin (x := Str.ofString "rest") hz (by decide)), if_neg (ne_of_notin (x := Str.ofString "sort") hz (by decide)), if_neg (ne_of_notin (x := Str.ofString "more") hz (by decide)), if_neg (ne_of_notin (x := Str.ofString "who") hz (by decide)), if_neg (ne_of_notin (x := Str.ofString "lock") hz (by decide)), if_neg (ne_of_notin (x := Str.ofString "far") hz (by decide)), if_neg (ne_of_notin (x := Str.ofString "name") hz (by decide)), if_neg (ne_of_notin (x := Str.ofString "due") hz (by decide)), kst_back hps]
end
end Mine
namespace Mine
local macro_rules | `(tactic| walk_at "zz") => `(tactic| fail)
local macro_rules | `(tactic| walk_at "subscriptTail Name Name ref int") => `(tactic| (k_here; (with_reducible show wpAny _ _ (subscriptTail _ _ (Value.ref _) (Value.int _ _)) _ _ _); k_dflt (refine my_item (by k_asm) (by k_mem) (by assumption) (by assumption) (by assumption) ?_)))
def ifS : Stmt := match turnBody with | [_, _, _, _, s, _, _] => s | _ => .Pass default
section
variable {w : World} {h₀ : Heap} {L fa : Addr} {cd : Value} {mg mb : Str → Option Value} {mean : ExcName → Option Value} {E : Value → Shared → Prop} {Q : Flow → Shared → Prop} {s : Shared} {m : Str → Option Value} {rest : List (Addr × Obj)}
  {mgr md im di lk g gd sn ml du : Addr} {t tg : Nat → Tok} {ag : Nat → Addr} {tl ts tw tf tna : Tok} {auto now last far : Int} {nm l : Str} {vs ms : List Value} {n nml cdu : Nat} {oa og : Obj} {ta : Tok} {k : Nat}
variable (KX : (Mine.hd.heap_1 w.params).In h₀) (T : Top viewQ (looseW viewQ []) mean mg mb h₀) (B : Below callerA h₀ [] h₀)
include KX T B
set_option maxHeartbeats 4000000 in
theorem t_now (F : Fr h₀ L s.heap m)
    (hm1 : m (Str.ofString "sort") = some (.int 0 ts)) (hm2 : m (Str.ofString "far") = some (.int far tf)) (ha : 0 < auto) (hf : 0 ≤ far)
    (N : News h₀ L s.heap ((gd, gD w tg ag now) :: (g, instObj 220 gd) :: (L + 1, oa) :: (L + 1 + 1, og) :: rest))
    (hoa : oa.data = .cell (some (.int auto ta))) (hog : og.data = .cell (some (.ref g))) (hoff : OwnOff rest [gd]) 
    (hk : ∀ h' tk now' tg', now ≤ now' → Fr h₀ L h' m → News h₀ L h' ((gd, gD w tg' ag now') :: (g, instObj 220 gd) :: (L + 1, oa) :: (L + 1 + 1, og) :: rest) → Q .next { s with heap := h', toks := tk }) :
    wpAny (model prg w) (lawA L fa cd) (exec ifS (lawEnv L fa cd)) Q E s := by
  obtain ⟨heap, gens, drawn, toks, os⟩ := s
  have hps := allC hm1 (all1 hm2)
  have F0 := fr_known _ hps F
  clear F
  have e1 : @Ne Nat g gd := news_ne N (by k_mem) (by k_mem) (ne_cls (by simp))
  have e2 : @Ne Nat (L + 1) gd := news_ne N (by k_mem) (by k_mem) (fun e => by rw [e] at hoa; cases hoa)
  have e3 : @Ne Nat (L + 1 + 1) gd := news_ne N (by k_mem) (by k_mem) (fun e => by rw [e] at hog; cases hog)
  dsimp only at F0 N hk ⊢
  unfold prg at *; revert KX; k_fill; intro KX; w_top off
  have hMk := kstMark
  show wpAny _ _ (exec (.If _ _ _ _) _) _ _ _
  k_steps
  all_goals exact hk _ _ (now + far.fmod (auto + 3)) (updT tg 1 _) (by have := fmod_lo far (n := auto + 3) (by omega); omega) (fr_back hps (by assumption)) (by assumption)
set_option hygiene false in
local macro_rules | `(tactic| walk_at "call ref") => `(tactic| (k_here; (with_reducible show wpAny _ _ (call (Value.ref 112) _ _) _ _ _); k_dflt (refine' c_try ?KX ?T ?B ?F ?N ?o ?l ?_; (case KX => k_asm); (case T => k_asm); (case B => k_asm); (case F => k_asm); (case N => k_asm); (case o => assumption); (case l => assumption)); intro h9 tk9 a9 k9 n9 x9 F9 N9; (have z9 : @Ne Nat a9 du := news_ne N9 (by k_mem) (by k_mem) (ne_cls (by simp)))))
set_option hygiene false in
local macro_rules | `(tactic| walk_at "call ref") => `(tactic| (k_here; (with_reducible show wpAny _ _ (call (Value.ref 140) _ _) _ _ _); k_dflt (refine' c_rel ?KX ?T ?B ?F ?N ?o ?l ?_; (case KX => k_asm); (case T => k_asm); (case B => k_asm); (case F => k_asm); (case N => k_asm); (case o => assumption); (case l => assumption)); intro h9 tk9 a9 k9 n9 x9 F9 N9; (have z9 : @Ne Nat a9 du := news_ne N9 (by k_mem) (by k_mem) (ne_cls (by simp)))))
set_option maxHeartbeats 4000000 in
theorem t_try (F : Fr h₀ L s.heap m) (hk3 : k < 3)
    (hm1 : m (Str.ofString "sort") = some (.int 1 ts)) (hm2 : m (Str.ofString "who") = some (.int k tw)) (hm3 : m (Str.ofString "lock") = some (.str l tl)) (hm4 : m (Str.ofString "name") = some (.str nm tna)) (hm5 : m (Str.ofString "due") = some (.ref du)) (hm6 : m (Str.ofString "managers") = some (.ref ml))
    (hx : ms[k]? = some (.ref mgr))
    (N : News h₀ L s.heap ((mgr, instObj 143 md) :: (md, mdD w t im nm auto g last sn) :: (g, instObj 220 gd) :: (gd, gD w tg ag now) :: (sn, listOf vs.toArray n) :: (ml, listOf ms.toArray nml) :: (du, listOf #[] cdu) :: (L + 1 + 1, og) :: rest))
    (hog : og.data = .cell (some (.ref g))) (hoff : OwnOff rest [sn]) (hoff2 : OwnOff rest [du]) (hne1 : @Ne Nat ml sn) (hne2 : @Ne Nat du sn) (hne3 : @Ne Nat ml du) (hlen : vs.length ≤ 1000) 
    (hk : ∀ h' tk a k1 n' d k2 n2 x x' nt l2 nt2 nwt nwt2, Fr h₀ L h' m → News h₀ L h' ((d, tupOf [.str (Str.ofString "acquire") x', .str l tl, .str nm nt, .int now nwt2] k2) :: (a, tupOf [.str (Str.ofString "acquire") x, .str l l2, .str nm nt2, .int now nwt] k1) ::
      (mgr, instObj 143 md) :: (md, mdD w t im nm auto g last sn) :: (g, instObj 220 gd) :: (gd, gD w tg ag now) :: (sn, listOf (vs.toArray.push (Value.ref a)) n') :: (ml, listOf ms.toArray nml) :: (du, listOf #[Value.ref d] n2) :: (L + 1 + 1, og) :: rest) → Q .next { s with heap := h', toks := tk }) :
    wpAny (model prg w) (lawA L fa cd) (exec ifS (lawEnv L fa cd)) Q E s := by
  obtain ⟨heap, gens, drawn, toks, os⟩ := s
  have hps := allC hm1 (allC hm2 (allC hm3 (allC hm4 (allC hm5 (all1 hm6)))))
  have F0 := fr_known _ hps F
  clear F
  have hk0 : (0 : Int) ≤ (k : Int) := by omega
  have hk3' : (k : Int) < 3 := by omega
  have hx' : ms[(k : Int).toNat]? = some (.ref mgr) := hx
  have e1 : @Ne Nat mgr sn := news_ne N (by k_mem) (by k_mem) (ne_cls (by simp))
  have e2 : @Ne Nat md sn := news_ne N (by k_mem) (by k_mem) (ne_cls (by simp))
  have e3 : @Ne Nat g sn := news_ne N (by k_mem) (by k_mem) (ne_cls (by simp))
  have e4 : @Ne Nat gd sn := news_ne N (by k_mem) (by k_mem) (ne_cls (by simp))
  have d1 : @Ne Nat mgr du := news_ne N (by k_mem) (by k_mem) (ne_cls (by simp))
  have d2 : @Ne Nat md du := news_ne N (by k_mem) (by k_mem) (ne_cls (by simp))
  have d3 : @Ne Nat g du := news_ne N (by k_mem) (by k_mem) (ne_cls (by simp))
  have d4 : @Ne Nat gd du := news_ne N (by k_mem) (by k_mem) (ne_cls (by simp))
  have d5 : @Ne Nat (L + 1 + 1) du := news_ne N (by k_mem) (by k_mem) (fun e => by rw [e] at hog; cases hog)
  have d6 : @Ne Nat (L + 1 + 1) sn := news_ne N (by k_mem) (by k_mem) (fun e => by rw [e] at hog; cases hog)
  have hoffA : OwnOff ((ml, listOf ms.toArray nml) :: (du, listOf #[] cdu) :: (L + 1 + 1, og) :: rest) [sn] := by
    intro p hp b hb
    rw [List.mem_singleton.mp hb]
    simp only [List.mem_cons] at hp
    rcases hp with rfl | rfl | rfl | hp
    · exact hne1
    · exact hne2
    · exact d6
    · exact hoff p hp sn (List.mem_singleton.mpr rfl)
  dsimp only at F0 N hk ⊢
  unfold prg at *; revert KX; k_fill; intro KX; w_top off
  have hMk := kstMark
  show wpAny _ _ (exec (.If _ _ _ _) _) _ _ _
  k_steps
  · exact absurd rfl (by assumption : now ≠ now)
  · exact hk _ _ _ _ _ _ _ _ _ _ _ _ _ _ _ (fr_back hps (by assumption)) (by assumption)
end
end Mine
namespace Mine
local macro_rules | `(tactic| k_upd) => `(tactic| first | (refine' Upd.head ?a; (case a => k_all)) | (refine' Upd.tail ?a ?b; (case a => (refine neN ?_; (try dsimp only); first | assumption | exact Ne.symm (by assumption) | omega)); (case b => k_upd)))
local macro_rules | `(tactic| k_updF) => `(tactic| first | (refine' UpdF.head ?a; (case a => k_all)) | (refine' UpdF.tail ?a ?b; (case a => (refine neN ?_; (try dsimp only); first | assumption | exact Ne.symm (by assumption) | omega)); (case b => k_updF)))
local macro_rules | `(tactic| k_all) => `(tactic| first | exact List.forall_mem_nil _ | (refine' List.forall_mem_cons.mpr ⟨?a, ?b⟩; (case a => (refine neN ?_; (try dsimp only); first | assumption | exact Ne.symm (by assumption) | omega)); (case b => k_all)) | exact OwnOff.ne (by assumption) (by k_memK))
local macro_rules | `(tactic| walk_at "subscriptTail Name Name ref int") => `(tactic| (k_here; (with_reducible show wpAny _ _ (subscriptTail _ _ (Value.ref _) (Value.int _ _)) _ _ _); k_dflt (refine my_item (by k_asm) (by k_mem) (by assumption) (by assumption) (by assumption) ?_)))
set_option hygiene false in
local macro_rules | `(tactic| walk_at "call ref") => `(tactic| (k_here; (with_reducible show wpAny _ _ (call (Value.ref 140) _ _) _ _ _); k_dflt (refine' c_rel ?KX ?T ?B ?F ?N ?o ?l ?_; (case KX => k_asm); (case T => k_asm); (case B => k_asm); (case F => k_asm); (case N => k_asm); (case o => assumption); (case l => assumption)); intro h9 tk9 a9 k9 n9 x9 F9 N9; (have z9 : @Ne Nat a9 du := news_ne N9 (by k_mem) (by k_mem) (ne_cls (by simp)))))
section
variable {w : World} {h₀ : Heap} {L fa : Addr} {cd : Value} {mg mb : Str → Option Value} {mean : ExcName → Option Value} {E : Value → Shared → Prop} {Q : Flow → Shared → Prop} {s : Shared} {m : Str → Option Value} {rest : List (Addr × Obj)}
  {mgr md im di lk g gd sn ml du : Addr} {t tg : Nat → Tok} {ag : Nat → Addr} {tl ts tw tf tna : Tok} {auto now last far : Int} {nm l : Str} {vs ms : List Value} {n nml cdu : Nat} {oa og : Obj} {ta : Tok} {k : Nat} {rd : Addr} {rs : List Value} {ns : List Int} {nr : Nat} {tr : Tok}
variable (KX : (Mine.hd.heap_1 w.params).In h₀) (T : Top viewQ (looseW viewQ []) mean mg mb h₀) (B : Below callerA h₀ [] h₀)
include KX T B
set_option hygiene false in
local macro_rules | `(tactic| walk_at "call ref") => `(tactic| (k_here; (with_reducible show wpAny _ _ (call (Value.ref 105) _ _) _ _ _); k_dflt (refine' c_auto ?KX ?T ?B ?F ?ld ?N ?o ?o2 ?ne ?l ?_ ?_; (case KX => k_asm); (case T => k_asm); (case B => k_asm); (case F => k_asm); (case ld => first | exact .inl rfl | exact .inr ⟨_, _, rfl⟩); (case N => k_asm); (case o => assumption); (case o2 => assumption); (case ne => assumption); (case l => assumption)); (all_goals (intro c9; (try replace c9 := c9.resolve_right (by simp)); first | (intro d9 h9 tk9 a9 k9 n9 x9 t9 F9 N9; refine stop_intro ?_) | intro h9 tk9 F9 N9))))
set_option maxHeartbeats 4000000 in
theorem t_rel (F : Fr h₀ L s.heap m) (hk3 : k < 3)
    (hm1 : m (Str.ofString "sort") = some (.int 2 ts)) (hm2 : m (Str.ofString "who") = some (.int k tw)) (hm3 : m (Str.ofString "lock") = some (.str l tl)) (hm4 : m (Str.ofString "name") = some (.str nm tna)) (hm5 : m (Str.ofString "due") = some (.ref du)) (hm6 : m (Str.ofString "managers") = some (.ref ml))
    (hx : ms[k]? = some (.ref mgr))
    (N : News h₀ L s.heap ((mgr, instObj 143 md) :: (md, mdD w t im nm auto g last sn) :: (sn, listOf vs.toArray n) :: (ml, listOf ms.toArray nml) :: (du, listOf #[] cdu) :: rest))
    (hoff : OwnOff rest [sn]) (hoff2 : OwnOff rest [du]) (hne1 : @Ne Nat ml sn) (hne2 : @Ne Nat du sn) (hne3 : @Ne Nat ml du) (hlen : vs.length ≤ 1000)
    (hk : ∀ h' tk a k1 n' d k2 n2 x x' nt l2 nt2, Fr h₀ L h' m → News h₀ L h' ((d, tupOf [.str (Str.ofString "release") x', .str l tl, .str nm nt] k2) :: (a, tupOf [.str (Str.ofString "release") x, .str l l2, .str nm nt2] k1) ::
      (mgr, instObj 143 md) :: (md, mdD w t im nm auto g last sn) :: (sn, listOf (vs.toArray.push (Value.ref a)) n') :: (ml, listOf ms.toArray nml) :: (du, listOf #[Value.ref d] n2) :: rest) → Q .next { s with heap := h', toks := tk }) :
    wpAny (model prg w) (lawA L fa cd) (exec ifS (lawEnv L fa cd)) Q E s := by
  obtain ⟨heap, gens, drawn, toks, os⟩ := s
  have hps := allC hm1 (allC hm2 (allC hm3 (allC hm4 (allC hm5 (all1 hm6)))))
  have F0 := fr_known _ hps F
  clear F
  have hk0 : (0 : Int) ≤ (k : Int) := by omega
  have hk3' : (k : Int) < 3 := by omega
  have hx' : ms[(k : Int).toNat]? = some (.ref mgr) := hx
  have e1 : @Ne Nat mgr sn := news_ne N (by k_mem) (by k_mem) (ne_cls (by simp))
  have e2 : @Ne Nat md sn := news_ne N (by k_mem) (by k_mem) (ne_cls (by simp))
  have d1 : @Ne Nat mgr du := news_ne N (by k_mem) (by k_mem) (ne_cls (by simp))
  have d2 : @Ne Nat md du := news_ne N (by k_mem) (by k_mem) (ne_cls (by simp))
  have hoffA : OwnOff ((ml, listOf ms.toArray nml) :: (du, listOf #[] cdu) :: rest) [sn] := by
    intro p hp b hb
    rw [List.mem_singleton.mp hb]
    simp only [List.mem_cons] at hp
    rcases hp with rfl | rfl | hp
    · exact hne1
    · exact hne2
    · exact hoff p hp sn (List.mem_singleton.mpr rfl)
  dsimp only at F0 N hk ⊢
  unfold prg at *; revert KX; k_fill; intro KX; w_top off
  have hMk := kstMark
  show wpAny _ _ (exec (.If _ _ _ _) _) _ _ _
  k_steps
  · exact hk _ _ _ _ _ _ _ _ _ _ _ _ _ (fr_back hps (by assumption)) (by assumption)
set_option maxHeartbeats 4000000 in
theorem t_auto (F : Fr h₀ L s.heap m) (hk3 : k < 3)
    (hm1 : m (Str.ofString "sort") = some (.int 3 ts)) (hm2 : m (Str.ofString "who") = some (.int k tw)) (hm3 : m (Str.ofString "far") = some (.int far tf)) (hm4 : m (Str.ofString "name") = some (.str nm tna)) (hm5 : m (Str.ofString "due") = some (.ref du)) (hm6 : m (Str.ofString "managers") = some (.ref ml)) (hm7 : m (Str.ofString "rounds") = some (.ref rd))
    (hx : ms[k]? = some (.ref mgr)) (hr : rs[k]? = some (.int last tr)) (hi : IntsAre rs ns) (hnl : ns.length = 3)
    (N : News h₀ L s.heap ((mgr, instObj 143 md) :: (md, mdD w t im nm auto g last sn) :: (g, instObj 220 gd) :: (gd, gD w tg ag now) :: (sn, listOf vs.toArray n) :: (ml, listOf ms.toArray nml) :: (du, listOf #[] cdu) :: (rd, listOf rs.toArray nr) :: (L + 1, oa) :: (L + 1 + 1, og) :: rest))
    (hoa : oa.data = .cell (some (.int auto ta))) (hog : og.data = .cell (some (.ref g))) (hoff : OwnOff rest [sn]) (hoff2 : OwnOff rest [du]) (hoff3 : OwnOff rest [md]) (hoff4 : OwnOff rest [rd])
    (hne0 : @Ne Nat md gd) (hne1 : @Ne Nat ml sn) (hne2 : @Ne Nat du sn) (hne3 : @Ne Nat ml du) (hne4 : @Ne Nat rd sn) (hne5 : @Ne Nat rd du) (hne6 : @Ne Nat ml rd) (hlen : vs.length ≤ 1000)
    (hk1 : ∀ h' tk m', (∀ z, z ≠ Str.ofString "leader" → m' z = m z) → Fr h₀ L h' m' → News h₀ L h' ((mgr, instObj 143 md) :: (md, mdD w t im nm auto g last sn) :: (g, instObj 220 gd) :: (gd, gD w tg ag now) :: (sn, listOf vs.toArray n) :: (ml, listOf ms.toArray nml) :: (du, listOf #[] cdu) :: (rd, listOf rs.toArray nr) :: (L + 1, oa) :: (L + 1 + 1, og) :: rest) → Q .next { s with heap := h', toks := tk })
    (hk : ∀ h' tk m' a k1 n' d k2 n2 x x' nt t' nwt nwt2 ru, (∀ z, z ≠ Str.ofString "leader" → m' z = m z) → Fr h₀ L h' m' → News h₀ L h' ((d, tupOf [.str (Str.ofString "prolongate") x', .str nm nt, .int now nwt2] k2) :: (a, tupOf [.str (Str.ofString "prolongate") x, .str nm (t' 2), .int now nwt] k1) ::
      (mgr, instObj 143 md) :: (md, mdD w t' im nm auto g now sn) :: (g, instObj 220 gd) :: (gd, gD w tg ag now) :: (sn, listOf (vs.toArray.push (Value.ref a)) n') :: (ml, listOf ms.toArray nml) :: (du, listOf #[Value.ref d] n2) :: (rd, listOf (rs.set k (.int now ru)).toArray nr) :: (L + 1, oa) :: (L + 1 + 1, og) :: rest) → Q .next { s with heap := h', toks := tk }) :
    wpAny (model prg w) (lawA L fa cd) (exec ifS (lawEnv L fa cd)) Q E s := by
  obtain ⟨heap, gens, drawn, toks, os⟩ := s
  have hps := allC hm1 (allC hm2 (allC hm3 (allC hm4 (allC hm5 (allC hm6 (all1 hm7))))))
  have F0 := fr_known _ hps F
  clear F
  have hk0 : (0 : Int) ≤ (k : Int) := by omega
  have hk3' : (k : Int) < 3 := by omega
  have hx' : ms[(k : Int).toNat]? = some (.ref mgr) := hx
  have hr' : rs[(k : Int).toNat]? = some (.int last tr) := hr
  have e1 : @Ne Nat mgr sn := news_ne N (by k_mem) (by k_mem) (ne_cls (by simp))
  have e2 : @Ne Nat md sn := news_ne N (by k_mem) (by k_mem) (ne_cls (by simp))
  have d1 : @Ne Nat mgr du := news_ne N (by k_mem) (by k_mem) (ne_cls (by simp))
  have d2 : @Ne Nat md du := news_ne N (by k_mem) (by k_mem) (ne_cls (by simp))
  have d3 : @Ne Nat g du := news_ne N (by k_mem) (by k_mem) (ne_cls (by simp))
  have d4 : @Ne Nat gd du := news_ne N (by k_mem) (by k_mem) (ne_cls (by simp))
  have d5 : @Ne Nat (L + 1 + 1) du := news_ne N (by k_mem) (by k_mem) (fun e => by rw [e] at hog; cases hog)
  have d6 : @Ne Nat (L + 1) du := news_ne N (by k_mem) (by k_mem) (fun e => by rw [e] at hoa; cases hoa)
  have r1 : @Ne Nat mgr rd := news_ne N (by k_mem) (by k_mem) (ne_cls (by simp))
  have r2 : @Ne Nat md rd := news_ne N (by k_mem) (by k_mem) (ne_cls (by simp))
  have r3 : @Ne Nat g rd := news_ne N (by k_mem) (by k_mem) (ne_cls (by simp))
  have r4 : @Ne Nat gd rd := news_ne N (by k_mem) (by k_mem) (ne_cls (by simp))
  have r5 : @Ne Nat (L + 1 + 1) rd := news_ne N (by k_mem) (by k_mem) (fun e => by rw [e] at hog; cases hog)
  have r6 : @Ne Nat (L + 1) rd := news_ne N (by k_mem) (by k_mem) (fun e => by rw [e] at hoa; cases hoa)
  have s5 : @Ne Nat (L + 1 + 1) sn := news_ne N (by k_mem) (by k_mem) (fun e => by rw [e] at hog; cases hog)
  have s6 : @Ne Nat (L + 1) sn := news_ne N (by k_mem) (by k_mem) (fun e => by rw [e] at hoa; cases hoa)
  have m5 : @Ne Nat (L + 1 + 1) md := news_ne N (by k_mem) (by k_mem) (fun e => by rw [e] at hog; cases hog)
  have m6 : @Ne Nat (L + 1) md := news_ne N (by k_mem) (by k_mem) (fun e => by rw [e] at hoa; cases hoa)
  have m7 : @Ne Nat ml md := news_ne N (by k_mem) (by k_mem) (ne_cls (by simp))
  have hoffA : OwnOff ((ml, listOf ms.toArray nml) :: (du, listOf #[] cdu) :: (rd, listOf rs.toArray nr) :: (L + 1, oa) :: (L + 1 + 1, og) :: rest) [sn] := by
    intro p hp b hb
    rw [List.mem_singleton.mp hb]
    simp only [List.mem_cons] at hp
    rcases hp with rfl | rfl | rfl | rfl | rfl | hp
    · exact hne1
    · exact hne2
    · exact hne4
    · exact s6
    · exact s5
    · exact hoff p hp sn (List.mem_singleton.mpr rfl)
  have hoffB : OwnOff ((ml, listOf ms.toArray nml) :: (du, listOf #[] cdu) :: (rd, listOf rs.toArray nr) :: (L + 1, oa) :: (L + 1 + 1, og) :: rest) [md] := by
    intro p hp b hb
    rw [List.mem_singleton.mp hb]
    simp only [List.mem_cons] at hp
    rcases hp with rfl | rfl | rfl | rfl | rfl | hp
    · exact m7
    · exact Ne.symm d2
    · exact Ne.symm r2
    · exact m6
    · exact m5
    · exact hoff3 p hp md (List.mem_singleton.mpr rfl)
  dsimp only at F0 N hk hk1 ⊢
  unfold prg at *; revert KX; k_fill; intro KX; w_top off
  have hMk := kstMark
  show wpAny _ _ (exec (.If _ _ _ _) _) _ _ _
  k_steps
  all_goals first
    | exact absurd rfl (by assumption : Value.none ≠ Value.none)
    | exact hk1 _ _ _ (fun z hz => (if_neg hz).trans (congrFun (kst_back hps) z)) (by assumption) (by assumption)
    | skip
  unfold Stop
  have z9 : @Ne Nat a9 du := news_ne N9 (by k_mem) (by k_mem) (ne_cls (by simp))
  have z8 : @Ne Nat a9 rd := news_ne N9 (by k_mem) (by k_mem) (ne_cls (by simp))
  k_steps
  all_goals exact hk _ _ _ _ _ _ _ _ _ _ _ _ _ _ _ _ (fun z hz => (if_neg hz).trans (congrFun (kst_back hps) z)) (by assumption) (by assumption)
end
end Mine
namespace Mine
set_option hygiene false in
local macro_rules | `(tactic| k_upd) => `(tactic| first | (refine' Upd.head ?a; (case a => k_all)) | (refine' Upd.tail ?a ?b; (case a => (refine neN ?_; (try dsimp only); first | assumption | exact Ne.symm (by assumption) | exact Hlk _ (by k_mem) | exact Htb _ (by k_mem) | exact Hsn _ (by k_mem) | exact Hdn _ (by k_mem) | exact Hdu _ (by k_mem) | omega)); (case b => k_upd)))
set_option hygiene false in
local macro_rules | `(tactic| k_all) => `(tactic| first | exact List.forall_mem_nil _ | (refine' List.forall_mem_cons.mpr ⟨?a, ?b⟩; (case a => (refine neN ?_; (try dsimp only); first | assumption | exact Ne.symm (by assumption) | exact Hlk _ (by k_mem) | exact Htb _ (by k_mem) | exact Hsn _ (by k_mem) | exact Hdn _ (by k_mem) | exact Hdu _ (by k_mem) | omega)); (case b => k_all)) | exact OwnOff.ne (by assumption) (by k_memK))
local macro_rules | `(tactic| walk_at "subscriptTail Name Name ref int") => `(tactic| (k_here; (with_reducible show wpAny _ _ (subscriptTail _ _ (Value.ref _) (Value.int _ _)) _ _ _); k_dflt (refine my_item (by k_asm) (by k_mem) (by assumption) (by assumption) (by assumption) ?_)))
set_option hygiene false in
local macro_rules | `(tactic| walk_at "call ref") => `(tactic| ((with_reducible show wpAny _ _ (call (Value.ref _) _ _) _ _ _); (rename Fr _ _ _ _ => F9); (rename News _ _ _ _ => N9); (refine stop_intro ?_)))
def dBody : List Stmt := match ifS with | .If _ _ [.If _ _ [.If _ _ [.If _ _ [.For _ _ b _ _] _] _] _] _ => b | _ => []
section
variable {w : World} {h₀ : Heap} {L fa : Addr} {cd : Value} {mg mb : Str → Option Value} {mean : ExcName → Option Value} {E : Value → Shared → Prop} {Q : Flow → Shared → Prop} {s : Shared} {m : Str → Option Value} {rest : List (Addr × Obj)}
  {mgr md im di lk tb g gd sn ml tL du dd dn : Addr} {t tg : Nat → Tok} {ag : Nat → Addr} {x1 x2 x3 x4 t1 t2 t3 tl ts tw tf tna ta tdn : Tok} {auto now last t0 : Int} {nm l c : Str} {vs ms tsv dv ds : List Value} {n nml ntl cdu ndn kd : Nat} {oa og ol ot : Obj} {k dk : Nat} {f : Tab} {dns : List Int}
variable (KX : (Mine.hd.heap_1 w.params).In h₀) (T : Top viewQ (looseW viewQ []) mean mg mb h₀) (B : Below callerA h₀ [] h₀)
include KX T B

set_option maxHeartbeats 4000000 in
theorem t_bodyAcq (F : Fr h₀ L s.heap m) (hk3 : k < 3)
    (hm1 : m (Str.ofString "deed") = some (.ref dd)) (hm2 : m (Str.ofString "who") = some (.int k tw)) (hm3 : m (Str.ofString "tables") = some (.ref tL)) (hm4 : m (Str.ofString "name") = some (.str nm tna)) (hm5 : m (Str.ofString "due") = some (.ref du)) (hm6 : m (Str.ofString "managers") = some (.ref ml)) (hm7 : m (Str.ofString "done") = some (.ref dn))
    (hx : ms[k]? = some (.ref mgr)) (hxt : tsv[k]? = some (.ref tb)) (hxd : ds[k]? = some (.int dk tdn)) (hid : IntsAre ds dns) (hdl : dns.length = 3)
    (N : News h₀ L s.heap ((dd, tupOf [.str (Str.ofString "acquire") x1, .str l x2, .str c x3, .int t0 x4] kd) :: (mgr, instObj 143 md) :: (md, mdD w t im nm auto g last sn) :: (im, instObj 66 di) :: (di, imD w t1 t2 t3 lk auto) :: (lk, ol) :: (tb, ot) :: (g, instObj 220 gd) :: (gd, gD w tg ag now) :: (sn, listOf vs.toArray n) :: (ml, listOf ms.toArray nml) :: (tL, listOf tsv.toArray ntl) :: (dn, listOf ds.toArray ndn) :: (du, listOf dv.toArray cdu) :: (L + 1, oa) :: (L + 1 + 1, og) :: rest))
    (hoa : oa.data = .cell (some (.int auto ta))) (hog : og.data = .cell (some (.ref g)))
    (hol : DictTab w rest ol f) (hot : DictTab w rest ot f) (lo1 : (lk == sysModules) = false) (lo2 : (tb == sysModules) = false) (hl : isLock l)
    (hoff1 : OwnOff rest [lk]) (hoff2 : OwnOff rest [tb]) (hoff3 : OwnOff rest [sn]) (hoff4 : OwnOff rest [dn]) (hoff5 : OwnOff rest [du])
    (hnd : [dd, mgr, md, im, di, lk, tb, g, gd, sn, ml, tL, dn, du, L + 1, L + 1 + 1].Nodup) (hlen : vs.length ≤ 1000) (hlen2 : dv.length ≤ 1000)
    (hk1 : ¬ (c = nm ∧ acqOk f l c t0 auto = true ∧ auto < 2 * (now - t0)) → ∀ h' tk m' ol' ot' add u n' c', (∀ z, List.contains [Str.ofString "told", Str.ofString "late"] z = false → m' z = m z) → (∀ p ∈ add, p.2.cls = .type "tuple") → Fr h₀ L h' m' → DictTab w (add ++ rest) ol' (acqTab f l c t0 auto) → DictTab w (add ++ rest) ot' (acqTab f l c t0 auto) → News h₀ L h' ((mgr, instObj 143 md) :: (md, mdD w t im nm auto g last sn) :: (g, instObj 220 gd) :: (gd, gD w tg ag now) :: (sn, listOf vs.toArray n') :: (dd, tupOf [.str (Str.ofString "acquire") x1, .str l x2, .str c x3, .int t0 x4] kd) :: (ml, listOf ms.toArray nml) :: (dn, listOf (ds.set (k : Int).toNat (.int (dk + 1) u)).toArray ndn) :: (du, listOf dv.toArray c') :: (L + 1, oa) :: (L + 1 + 1, og) :: (im, instObj 66 di) :: (di, imD w t1 t2 t3 lk auto) :: (lk, ol') :: (tb, ot') :: (tL, listOf tsv.toArray ntl) :: (add ++ rest)) → Q .next { s with heap := h', toks := tk })
    (hk2 : c = nm → acqOk f l c t0 auto = true → auto < 2 * (now - t0) → ∀ h' tk m' ol' ot' add u n' c' a k1 d k2 y1 y2 y3 z1 z2 z3, (∀ z, List.contains [Str.ofString "told", Str.ofString "late"] z = false → m' z = m z) → (∀ p ∈ add, p.2.cls = .type "tuple") → Fr h₀ L h' m' → DictTab w (add ++ rest) ol' (acqTab f l c t0 auto) → DictTab w (add ++ rest) ot' (acqTab f l c t0 auto) → News h₀ L h' ((d, tupOf [.str (Str.ofString "release") y1, .str l y2, .str nm y3] k2) :: (a, tupOf [.str (Str.ofString "release") z1, .str l z2, .str nm z3] k1) :: (mgr, instObj 143 md) :: (md, mdD w t im nm auto g last sn) :: (g, instObj 220 gd) :: (gd, gD w tg ag now) :: (sn, listOf (vs.toArray.push (Value.ref a)) n') :: (dd, tupOf [.str (Str.ofString "acquire") x1, .str l x2, .str c x3, .int t0 x4] kd) :: (ml, listOf ms.toArray nml) :: (dn, listOf (ds.set (k : Int).toNat (.int (dk + 1) u)).toArray ndn) :: (du, listOf (dv.toArray.push (Value.ref d)) c') :: (L + 1, oa) :: (L + 1 + 1, og) :: (im, instObj 66 di) :: (di, imD w t1 t2 t3 lk auto) :: (lk, ol') :: (tb, ot') :: (tL, listOf tsv.toArray ntl) :: (add ++ rest)) → Q .next { s with heap := h', toks := tk }) :
    wpAny (model prg w) (lawA L fa cd) (execs dBody (lawEnv L fa cd)) Q E s := by
  obtain ⟨heap, gens, drawn, toks, os⟩ := s
  have hps := allC hm1 (allC hm2 (allC hm3 (allC hm4 (allC hm5 (allC hm6 (all1 hm7))))))
  have F0 := fr_known _ hps F
  clear F
  have hk0 : (0 : Int) ≤ (k : Int) := by omega
  have hk3' : (k : Int) < 3 := by omega
  have hx' : ms[(k : Int).toNat]? = some (.ref mgr) := hx
  have hxt' : tsv[(k : Int).toNat]? = some (.ref tb) := hxt
  have hxd' : ds[(k : Int).toNat]? = some (.int dk tdn) := hxd
  have Hlk := nodup_off (pre := [dd, mgr, md, im, di]) (b := lk) hnd
  have Htb := nodup_off (pre := [dd, mgr, md, im, di, lk]) (b := tb) hnd
  have Hsn := nodup_off (pre := [dd, mgr, md, im, di, lk, tb, g, gd]) (b := sn) hnd
  have Hdn := nodup_off (pre := [dd, mgr, md, im, di, lk, tb, g, gd, sn, ml, tL]) (b := dn) hnd
  have Hdu := nodup_off (pre := [dd, mgr, md, im, di, lk, tb, g, gd, sn, ml, tL, dn]) (b := du) hnd
  dsimp only [List.cons_append, List.nil_append] at Hlk Htb Hsn Hdn Hdu
  dsimp only at F0 N hk1 hk2 ⊢
  unfold prg at *; revert KX; k_fill; intro KX; w_top off
  have hMk := kstMark
  show wpAny _ _ (execs (_ :: _ :: _ :: _ :: []) _) _ _ _
  k_steps
  unfold Stop
  refine' c_apAcq KX T B F9 N9 (hol.mono ?s1) lo1 (own_of ?o1) hl (Hlk _ (by k_mem)) (Hlk _ (by k_mem)) ?_
  case s1 => intro p hp _; k_ownIn
  case o1 => k_all
  intro h1 tk1 ol1 add1 F1 ht1 N1 hD1
  have N1' := news_sub (l' := (dd, tupOf [.str (Str.ofString "acquire") x1, .str l x2, .str c x3, .int t0 x4] kd) :: (mgr, instObj 143 md) :: (md, mdD w t im nm auto g last sn) :: (im, instObj 66 di) :: (di, imD w t1 t2 t3 lk auto) :: (lk, ol1) :: (tb, ot) :: (g, instObj 220 gd) :: (gd, gD w tg ag now) :: (sn, listOf vs.toArray n) :: (ml, listOf ms.toArray nml) :: (tL, listOf tsv.toArray ntl) :: (dn, listOf ds.toArray ndn) :: (du, listOf dv.toArray cdu) :: (L + 1, oa) :: (L + 1 + 1, og) :: (add1 ++ rest)) N1 (by kqd_sub)
  clear N1 N9 F9
  generalize hok : acqOk f l c t0 auto = res
  k_steps
  unfold Stop
  refine' c_deedAcq KX T B F9 (news_sub (l' := (dd, tupOf [.str (Str.ofString "acquire") x1, .str l x2, .str c x3, .int t0 x4] kd) :: (tb, ot) :: ((mgr, instObj 143 md) :: (md, mdD w t im nm auto g last sn) :: (im, instObj 66 di) :: (di, imD w t1 t2 t3 lk auto) :: (lk, ol1) :: (g, instObj 220 gd) :: (gd, gD w tg ag now) :: (sn, listOf vs.toArray n) :: (ml, listOf ms.toArray nml) :: (tL, listOf tsv.toArray ntl) :: (dn, listOf ds.toArray ndn) :: (du, listOf dv.toArray cdu) :: (L + 1, oa) :: (L + 1 + 1, og) :: (add1 ++ rest))) N9 (by kqd_sub)) (hot.mono ?s2) lo2 (own_of ?o2) hl ?_
  case s2 => intro p hp _; (first | exact List.mem_append_right _ hp | exact List.mem_append_left _ hp | (repeat (first | exact List.mem_append_right _ hp | exact List.mem_append_left _ hp | refine List.Mem.tail _ ?_)))
  case o2 =>
    have q2 := off_add N9 ht1 (by intro p hp; (first | exact List.mem_append_right _ hp | exact List.mem_append_left _ hp | (repeat (first | exact List.mem_append_right _ hp | exact List.mem_append_left _ hp | refine List.Mem.tail _ ?_)))) (by k_mem) (by rw [(let ⟨_, a, _⟩ := hot; dict_cls a : ot.cls = .type "dict")]; simp) hoff2
    k_all
  intro h2 tk2 ot2 add2 F2 ht2 N2 hD2
  rw [hok]
  have N2' := news_sub (l' := (mgr, instObj 143 md) :: (md, mdD w t im nm auto g last sn) :: (g, instObj 220 gd) :: (gd, gD w tg ag now) :: (sn, listOf vs.toArray n) :: (dd, tupOf [.str (Str.ofString "acquire") x1, .str l x2, .str c x3, .int t0 x4] kd) :: (ml, listOf ms.toArray nml) :: (dn, listOf ds.toArray ndn) :: (du, listOf dv.toArray cdu) :: (L + 1, oa) :: (L + 1 + 1, og) :: (im, instObj 66 di) :: (di, imD w t1 t2 t3 lk auto) :: (lk, ol1) :: (tb, ot2) :: (tL, listOf tsv.toArray ntl) :: ((add2 ++ add1) ++ rest)) N2 (by kqd_sub)
  have ht3 := tup_app ht2 ht1
  have hsub3 : ∀ p ∈ add2 ++ add1, p ∈ (mgr, instObj 143 md) :: (md, mdD w t im nm auto g last sn) :: (g, instObj 220 gd) :: (gd, gD w tg ag now) :: (sn, listOf vs.toArray n) :: (dd, tupOf [.str (Str.ofString "acquire") x1, .str l x2, .str c x3, .int t0 x4] kd) :: (ml, listOf ms.toArray nml) :: (dn, listOf ds.toArray ndn) :: (du, listOf dv.toArray cdu) :: (L + 1, oa) :: (L + 1 + 1, og) :: (im, instObj 66 di) :: (di, imD w t1 t2 t3 lk auto) :: (lk, ol1) :: (tb, ot2) :: (tL, listOf tsv.toArray ntl) :: ((add2 ++ add1) ++ rest) := fun p hp => by
    have := List.mem_append_left rest hp
    k_ownIn
  have q3 := off_add N2' ht3 hsub3 (b := sn) (by k_mem) (by simp) hoff3
  have q4 := off_add N2' ht3 hsub3 (b := dn) (by k_mem) (by simp) hoff4
  have q5 := off_add N2' ht3 hsub3 (b := du) (by k_mem) (by simp) hoff5
  clear N2 hsub3
  (try clear N9)
  (try clear F9)
  (try clear F1)
  have hE1 : DictTab w ((add2 ++ add1) ++ rest) ol1 (acqTab f l c t0 auto) := by
    refine (only_tuples (W := [(tb, ot), (g, instObj 220 gd), (gd, gD w tg ag now), (sn, listOf vs.toArray n), (ml, listOf ms.toArray nml), (tL, listOf tsv.toArray ntl), (dn, listOf ds.toArray ndn), (du, listOf dv.toArray cdu), (L + 1, oa), (L + 1 + 1, og)]) hD1 ?_).mono fun p hp _ => ?_
    · have hcc := dict_obj_cls hot
      repeat' (first | exact List.forall_mem_nil _ | refine List.forall_mem_cons.mpr ⟨?_, ?_⟩ | exact nt_cell hoa | exact nt_cell hog | (refine nt_cls ?_; simp; done) | (refine nt_cls ?_; simp [hcc]; done))
    · rw [List.append_assoc]; exact List.mem_append_right _ hp
  have hE2 : DictTab w ((add2 ++ add1) ++ rest) ot2 (acqTab f l c t0 auto) := by
    rw [List.append_assoc]
    refine (only_tuples (W := [(mgr, instObj 143 md), (md, mdD w t im nm auto g last sn), (im, instObj 66 di), (di, imD w t1 t2 t3 lk auto), (lk, ol1), (g, instObj 220 gd), (gd, gD w tg ag now), (sn, listOf vs.toArray n), (ml, listOf ms.toArray nml), (tL, listOf tsv.toArray ntl), (dn, listOf ds.toArray ndn), (du, listOf dv.toArray cdu), (L + 1, oa), (L + 1 + 1, og)]) hD2 ?_)
    · have hcc := dict_obj_cls hD1
      repeat' (first | exact List.forall_mem_nil _ | refine List.forall_mem_cons.mpr ⟨?_, ?_⟩ | exact nt_cell hoa | exact nt_cell hog | (refine nt_cls ?_; simp; done) | (refine nt_cls ?_; simp [hcc]; done))
  k_steps
  · exfalso
    simp_all
  · unfold Stop
    cases res
    · refine' c_acquired KX T B F9 N9 (own_of ?o3) hlen ?_ (fun e => Bool.noConfusion e)
      case o3 => k_all
      intro _ h4 tk4 F4 N4
      k_steps
      all_goals (
        refine' hk1 (fun e => by rw [hok] at e; exact Bool.noConfusion e.2.1) _ _ _ _ _ (add2 ++ add1) _ _ _ ?z ht3 (by assumption) hE1 hE2 (by assumption)
        case z => intro z hz; simp only [if_neg (ne_of_notin (x := Str.ofString "told") hz (by decide)), if_neg (ne_of_notin (x := Str.ofString "late") hz (by decide)), kst_back hps])
    · refine' c_acquired KX T B F9 N9 (own_of ?o3) hlen ?_ ?_
      case o3 => k_all
      · intro hl4 h4 tk4 F4 N4
        have hdec : decide (auto < 2 * (now - t0)) = false := decide_eq_false (fun e => hl4 ⟨rfl, e⟩)
        simp only [hdec] at F4
        k_steps
        all_goals (
          refine' hk1 (fun e => hl4 ⟨rfl, e.2.2⟩) _ _ _ _ _ (add2 ++ add1) _ _ _ ?z ht3 (by assumption) hE1 hE2 (by assumption)
          case z => intro z hz; simp only [if_neg (ne_of_notin (x := Str.ofString "told") hz (by decide)), if_neg (ne_of_notin (x := Str.ofString "late") hz (by decide)), kst_back hps])
      · intro _ hl4 h4 tk4 a4 k4 n4 y4 F4 N4
        have hdec : decide (auto < 2 * (now - t0)) = true := decide_eq_true hl4
        simp only [hdec] at F4
        have z9 : @Ne Nat a4 du := news_ne N4 (by k_mem) (by k_mem) (ne_cls (by simp))
        k_steps
        all_goals (
          refine' hk2 (beq_iff_eq.mp (by assumption)) hok hl4 _ _ _ _ _ (add2 ++ add1) _ _ _ _ _ _ _ _ _ _ _ _ _ ?z ht3 (by assumption) hE1 hE2 (by assumption)
          case z => intro z hz; simp only [if_neg (ne_of_notin (x := Str.ofString "told") hz (by decide)), if_neg (ne_of_notin (x := Str.ofString "late") hz (by decide)), kst_back hps])
  · have hcn : (c == nm) = false := by assumption
    refine' hk1 (fun e => by rw [e.1] at hcn; simp at hcn) _ _ _ _ _ (add2 ++ add1) _ _ _ ?z ht3 (by assumption) hE1 hE2 (by assumption)
    case z => intro z hz; simp only [if_neg (ne_of_notin (x := Str.ofString "told") hz (by decide)), kst_back hps]
end
end Mine
namespace Mine
local macro_rules | `(tactic| walk_at "zz") => `(tactic| fail)
set_option hygiene false in
local macro_rules | `(tactic| k_upd) => `(tactic| first | (refine' Upd.head ?a; (case a => k_all)) | (refine' Upd.tail ?a ?b; (case a => (refine neN ?_; (try dsimp only); first | assumption | exact Ne.symm (by assumption) | exact Hlk _ (by k_mem) | exact Htb _ (by k_mem) | exact Hsn _ (by k_mem) | exact Hdn _ (by k_mem) | exact Hdu _ (by k_mem) | omega)); (case b => k_upd)))
set_option hygiene false in
local macro_rules | `(tactic| k_all) => `(tactic| first | exact List.forall_mem_nil _ | (refine' List.forall_mem_cons.mpr ⟨?a, ?b⟩; (case a => (refine neN ?_; (try dsimp only); first | assumption | exact Ne.symm (by assumption) | exact Hlk _ (by k_mem) | exact Htb _ (by k_mem) | exact Hsn _ (by k_mem) | exact Hdn _ (by k_mem) | exact Hdu _ (by k_mem) | omega)); (case b => k_all)) | exact OwnOff.ne (by assumption) (by k_memK))
local macro_rules | `(tactic| walk_at "subscriptTail Name Name ref int") => `(tactic| (k_here; (with_reducible show wpAny _ _ (subscriptTail _ _ (Value.ref _) (Value.int _ _)) _ _ _); k_dflt (refine my_item (by k_asm) (by k_mem) (by assumption) (by assumption) (by assumption) ?_)))
set_option hygiene false in
local macro_rules | `(tactic| walk_at "call ref") => `(tactic| ((with_reducible show wpAny _ _ (call (Value.ref _) _ _) _ _ _); (rename Fr _ _ _ _ => F9); (rename News _ _ _ _ => N9); (refine stop_intro ?_)))
section
variable {w : World} {h₀ : Heap} {L fa : Addr} {cd : Value} {mg mb : Str → Option Value} {mean : ExcName → Option Value} {E : Value → Shared → Prop} {Q : Flow → Shared → Prop} {s : Shared} {m : Str → Option Value} {rest : List (Addr × Obj)}
  {mgr md im di lk tb g gd sn ml tL du dd dn : Addr} {t tg : Nat → Tok} {ag : Nat → Addr} {x1 x2 x3 x4 t1 t2 t3 tl ts tw tf tna ta tdn : Tok} {auto now last t0 : Int} {nm l c : Str} {vs ms tsv dv ds : List Value} {n nml ntl cdu ndn kd : Nat} {oa og ol ot : Obj} {k dk : Nat} {f : Tab} {dns : List Int}
variable (KX : (Mine.hd.heap_1 w.params).In h₀) (T : Top viewQ (looseW viewQ []) mean mg mb h₀) (B : Below callerA h₀ [] h₀)
include KX T B

set_option maxHeartbeats 4000000 in
theorem t_bodyRel (F : Fr h₀ L s.heap m) (hk3 : k < 3)
    (hm1 : m (Str.ofString "deed") = some (.ref dd)) (hm2 : m (Str.ofString "who") = some (.int k tw)) (hm3 : m (Str.ofString "tables") = some (.ref tL)) (hm4 : m (Str.ofString "name") = some (.str nm tna)) (hm5 : m (Str.ofString "due") = some (.ref du)) (hm6 : m (Str.ofString "managers") = some (.ref ml)) (hm7 : m (Str.ofString "done") = some (.ref dn))
    (hx : ms[k]? = some (.ref mgr)) (hxt : tsv[k]? = some (.ref tb)) (hxd : ds[k]? = some (.int dk tdn)) (hid : IntsAre ds dns) (hdl : dns.length = 3)
    (N : News h₀ L s.heap ((dd, tupOf [.str (Str.ofString "release") x1, .str l x2, .str c x3] kd) :: (mgr, instObj 143 md) :: (md, mdD w t im nm auto g last sn) :: (im, instObj 66 di) :: (di, imD w t1 t2 t3 lk auto) :: (lk, ol) :: (tb, ot) :: (g, instObj 220 gd) :: (gd, gD w tg ag now) :: (sn, listOf vs.toArray n) :: (ml, listOf ms.toArray nml) :: (tL, listOf tsv.toArray ntl) :: (dn, listOf ds.toArray ndn) :: (du, listOf dv.toArray cdu) :: (L + 1, oa) :: (L + 1 + 1, og) :: rest))
    (hoa : oa.data = .cell (some (.int auto ta))) (hog : og.data = .cell (some (.ref g)))
    (hol : DictTab w rest ol f) (hot : DictTab w rest ot f) (lo1 : (lk == sysModules) = false) (lo2 : (tb == sysModules) = false) (hl : isLock l)
    (hoff1 : OwnOff rest [lk]) (hoff2 : OwnOff rest [tb]) (hoff3 : OwnOff rest [sn]) (hoff4 : OwnOff rest [dn]) (hoff5 : OwnOff rest [du])
    (hnd : [dd, mgr, md, im, di, lk, tb, g, gd, sn, ml, tL, dn, du, L + 1, L + 1 + 1].Nodup) (hlen : vs.length ≤ 1000) (hlen2 : dv.length ≤ 1000)
    (hk1 : ∀ h' tk m' ol' ot' add u n' c', (∀ z, List.contains [Str.ofString "told", Str.ofString "late"] z = false → m' z = m z) → (∀ p ∈ add, p.2.cls = .type "tuple") → Fr h₀ L h' m' → DictTab w (add ++ rest) ol' (relTab f l c) → DictTab w (add ++ rest) ot' (relTab f l c) → News h₀ L h' ((mgr, instObj 143 md) :: (md, mdD w t im nm auto g last sn) :: (g, instObj 220 gd) :: (gd, gD w tg ag now) :: (sn, listOf vs.toArray n') :: (dd, tupOf [.str (Str.ofString "release") x1, .str l x2, .str c x3] kd) :: (ml, listOf ms.toArray nml) :: (dn, listOf (ds.set (k : Int).toNat (.int (dk + 1) u)).toArray ndn) :: (du, listOf dv.toArray c') :: (L + 1, oa) :: (L + 1 + 1, og) :: (im, instObj 66 di) :: (di, imD w t1 t2 t3 lk auto) :: (lk, ol') :: (tb, ot') :: (tL, listOf tsv.toArray ntl) :: (add ++ rest)) → Q .next { s with heap := h', toks := tk }) :
    wpAny (model prg w) (lawA L fa cd) (execs dBody (lawEnv L fa cd)) Q E s := by
  obtain ⟨heap, gens, drawn, toks, os⟩ := s
  have hps := allC hm1 (allC hm2 (allC hm3 (allC hm4 (allC hm5 (allC hm6 (all1 hm7))))))
  have F0 := fr_known _ hps F
  clear F
  have hk0 : (0 : Int) ≤ (k : Int) := by omega
  have hk3' : (k : Int) < 3 := by omega
  have hx' : ms[(k : Int).toNat]? = some (.ref mgr) := hx
  have hxt' : tsv[(k : Int).toNat]? = some (.ref tb) := hxt
  have hxd' : ds[(k : Int).toNat]? = some (.int dk tdn) := hxd
  have Hlk := nodup_off (pre := [dd, mgr, md, im, di]) (b := lk) hnd
  have Htb := nodup_off (pre := [dd, mgr, md, im, di, lk]) (b := tb) hnd
  have Hsn := nodup_off (pre := [dd, mgr, md, im, di, lk, tb, g, gd]) (b := sn) hnd
  have Hdn := nodup_off (pre := [dd, mgr, md, im, di, lk, tb, g, gd, sn, ml, tL]) (b := dn) hnd
  have Hdu := nodup_off (pre := [dd, mgr, md, im, di, lk, tb, g, gd, sn, ml, tL, dn]) (b := du) hnd
  dsimp only [List.cons_append, List.nil_append] at Hlk Htb Hsn Hdn Hdu
  dsimp only at F0 N hk1 ⊢
  unfold prg at *; revert KX; k_fill; intro KX; w_top off
  have hMk := kstMark
  show wpAny _ _ (execs (_ :: _ :: _ :: _ :: []) _) _ _ _
  k_steps
  unfold Stop
  refine' c_apRel KX T B F9 N9 (hol.mono ?s1) lo1 (own_of ?o1) (Hlk _ (by k_mem)) (Hlk _ (by k_mem)) ?_
  case s1 => intro p hp _; k_ownIn
  case o1 => k_all
  intro h1 tk1 ol1 add1 F1 ht1 N1 hD1
  have N1' := news_sub (l' := (dd, tupOf [.str (Str.ofString "release") x1, .str l x2, .str c x3] kd) :: (mgr, instObj 143 md) :: (md, mdD w t im nm auto g last sn) :: (im, instObj 66 di) :: (di, imD w t1 t2 t3 lk auto) :: (lk, ol1) :: (tb, ot) :: (g, instObj 220 gd) :: (gd, gD w tg ag now) :: (sn, listOf vs.toArray n) :: (ml, listOf ms.toArray nml) :: (tL, listOf tsv.toArray ntl) :: (dn, listOf ds.toArray ndn) :: (du, listOf dv.toArray cdu) :: (L + 1, oa) :: (L + 1 + 1, og) :: (add1 ++ rest)) N1 (by kqd_sub)
  clear N1 N9 F9
  k_steps
  unfold Stop
  refine' c_deedRel KX T B F9 (news_sub (l' := (dd, tupOf [.str (Str.ofString "release") x1, .str l x2, .str c x3] kd) :: (tb, ot) :: ((mgr, instObj 143 md) :: (md, mdD w t im nm auto g last sn) :: (im, instObj 66 di) :: (di, imD w t1 t2 t3 lk auto) :: (lk, ol1) :: (g, instObj 220 gd) :: (gd, gD w tg ag now) :: (sn, listOf vs.toArray n) :: (ml, listOf ms.toArray nml) :: (tL, listOf tsv.toArray ntl) :: (dn, listOf ds.toArray ndn) :: (du, listOf dv.toArray cdu) :: (L + 1, oa) :: (L + 1 + 1, og) :: (add1 ++ rest))) N9 (by kqd_sub)) (hot.mono ?s2) lo2 (own_of ?o2) ?_
  case s2 => intro p hp _; (first | exact List.mem_append_right _ hp | exact List.mem_append_left _ hp | (repeat (first | exact List.mem_append_right _ hp | exact List.mem_append_left _ hp | refine List.Mem.tail _ ?_)))
  case o2 =>
    have q2 := off_add N9 ht1 (by intro p hp; (first | exact List.mem_append_right _ hp | exact List.mem_append_left _ hp | (repeat (first | exact List.mem_append_right _ hp | exact List.mem_append_left _ hp | refine List.Mem.tail _ ?_)))) (by k_mem) (by rw [(let ⟨_, a, _⟩ := hot; dict_cls a : ot.cls = .type "dict")]; simp) hoff2
    k_all
  intro h2 tk2 ot2 add2 F2 ht2 N2 hD2
  have N2' := news_sub (l' := (mgr, instObj 143 md) :: (md, mdD w t im nm auto g last sn) :: (g, instObj 220 gd) :: (gd, gD w tg ag now) :: (sn, listOf vs.toArray n) :: (dd, tupOf [.str (Str.ofString "release") x1, .str l x2, .str c x3] kd) :: (ml, listOf ms.toArray nml) :: (dn, listOf ds.toArray ndn) :: (du, listOf dv.toArray cdu) :: (L + 1, oa) :: (L + 1 + 1, og) :: (im, instObj 66 di) :: (di, imD w t1 t2 t3 lk auto) :: (lk, ol1) :: (tb, ot2) :: (tL, listOf tsv.toArray ntl) :: ((add2 ++ add1) ++ rest)) N2 (by kqd_sub)
  have ht3 := tup_app ht2 ht1
  have hsub3 : ∀ p ∈ add2 ++ add1, p ∈ (mgr, instObj 143 md) :: (md, mdD w t im nm auto g last sn) :: (g, instObj 220 gd) :: (gd, gD w tg ag now) :: (sn, listOf vs.toArray n) :: (dd, tupOf [.str (Str.ofString "release") x1, .str l x2, .str c x3] kd) :: (ml, listOf ms.toArray nml) :: (dn, listOf ds.toArray ndn) :: (du, listOf dv.toArray cdu) :: (L + 1, oa) :: (L + 1 + 1, og) :: (im, instObj 66 di) :: (di, imD w t1 t2 t3 lk auto) :: (lk, ol1) :: (tb, ot2) :: (tL, listOf tsv.toArray ntl) :: ((add2 ++ add1) ++ rest) := fun p hp => by
    have := List.mem_append_left rest hp
    k_ownIn
  have q3 := off_add N2' ht3 hsub3 (b := sn) (by k_mem) (by simp) hoff3
  have q4 := off_add N2' ht3 hsub3 (b := dn) (by k_mem) (by simp) hoff4
  have q5 := off_add N2' ht3 hsub3 (b := du) (by k_mem) (by simp) hoff5
  clear N2 hsub3
  (try clear N9)
  (try clear F9)
  (try clear F1)
  have hE1 : DictTab w ((add2 ++ add1) ++ rest) ol1 (relTab f l c) := by
    refine (only_tuples (W := [(tb, ot), (g, instObj 220 gd), (gd, gD w tg ag now), (sn, listOf vs.toArray n), (ml, listOf ms.toArray nml), (tL, listOf tsv.toArray ntl), (dn, listOf ds.toArray ndn), (du, listOf dv.toArray cdu), (L + 1, oa), (L + 1 + 1, og)]) hD1 ?_).mono fun p hp _ => ?_
    · have hcc := dict_obj_cls hot
      repeat' (first | exact List.forall_mem_nil _ | refine List.forall_mem_cons.mpr ⟨?_, ?_⟩ | exact nt_cell hoa | exact nt_cell hog | (refine nt_cls ?_; simp; done) | (refine nt_cls ?_; simp [hcc]; done))
    · rw [List.append_assoc]; exact List.mem_append_right _ hp
  have hE2 : DictTab w ((add2 ++ add1) ++ rest) ot2 (relTab f l c) := by
    rw [List.append_assoc]
    refine (only_tuples (W := [(mgr, instObj 143 md), (md, mdD w t im nm auto g last sn), (im, instObj 66 di), (di, imD w t1 t2 t3 lk auto), (lk, ol1), (g, instObj 220 gd), (gd, gD w tg ag now), (sn, listOf vs.toArray n), (ml, listOf ms.toArray nml), (tL, listOf tsv.toArray ntl), (dn, listOf ds.toArray ndn), (du, listOf dv.toArray cdu), (L + 1, oa), (L + 1 + 1, og)]) hD2 ?_)
    · have hcc := dict_obj_cls hD1
      repeat' (first | exact List.forall_mem_nil _ | refine List.forall_mem_cons.mpr ⟨?_, ?_⟩ | exact nt_cell hoa | exact nt_cell hog | (refine nt_cls ?_; simp; done) | (refine nt_cls ?_; simp [hcc]; done))
  k_steps
  all_goals (
    refine' hk1 _ _ _ _ _ (add2 ++ add1) _ _ _ ?z ht3 (by assumption) hE1 hE2 (by assumption)
    case z => intro z hz; simp only [if_neg (ne_of_notin (x := Str.ofString "told") hz (by decide)), kst_back hps])
set_option maxHeartbeats 4000000 in
theorem t_bodyPro (F : Fr h₀ L s.heap m) (hk3 : k < 3)
    (hm1 : m (Str.ofString "deed") = some (.ref dd)) (hm2 : m (Str.ofString "who") = some (.int k tw)) (hm3 : m (Str.ofString "tables") = some (.ref tL)) (hm4 : m (Str.ofString "name") = some (.str nm tna)) (hm5 : m (Str.ofString "due") = some (.ref du)) (hm6 : m (Str.ofString "managers") = some (.ref ml)) (hm7 : m (Str.ofString "done") = some (.ref dn))
    (hx : ms[k]? = some (.ref mgr)) (hxt : tsv[k]? = some (.ref tb)) (hxd : ds[k]? = some (.int dk tdn)) (hid : IntsAre ds dns) (hdl : dns.length = 3)
    (N : News h₀ L s.heap ((dd, tupOf [.str (Str.ofString "prolongate") x1, .str c x3, .int t0 x4] kd) :: (mgr, instObj 143 md) :: (md, mdD w t im nm auto g last sn) :: (im, instObj 66 di) :: (di, imD w t1 t2 t3 lk auto) :: (lk, ol) :: (tb, ot) :: (g, instObj 220 gd) :: (gd, gD w tg ag now) :: (sn, listOf vs.toArray n) :: (ml, listOf ms.toArray nml) :: (tL, listOf tsv.toArray ntl) :: (dn, listOf ds.toArray ndn) :: (du, listOf dv.toArray cdu) :: (L + 1, oa) :: (L + 1 + 1, og) :: rest))
    (hoa : oa.data = .cell (some (.int auto ta))) (hog : og.data = .cell (some (.ref g)))
    (hol : DictTab w rest ol f) (hot : DictTab w rest ot f) (lo1 : (lk == sysModules) = false) (lo2 : (tb == sysModules) = false)
    (hoff1 : OwnOff rest [lk]) (hoff2 : OwnOff rest [tb]) (hoff3 : OwnOff rest [sn]) (hoff4 : OwnOff rest [dn]) (hoff5 : OwnOff rest [du])
    (hnd : [dd, mgr, md, im, di, lk, tb, g, gd, sn, ml, tL, dn, du, L + 1, L + 1 + 1].Nodup) (hlen : vs.length ≤ 1000) (hlen2 : dv.length ≤ 1000)
    (hk1 : ∀ h' tk m' ol' ot' add u n' c', (∀ z, List.contains [Str.ofString "told", Str.ofString "late"] z = false → m' z = m z) → (∀ p ∈ add, p.2.cls = .type "tuple") → Fr h₀ L h' m' → DictTab w (add ++ rest) ol' (proTab f c t0 auto) → DictTab w (add ++ rest) ot' (proTab f c t0 auto) → News h₀ L h' ((mgr, instObj 143 md) :: (md, mdD w t im nm auto g last sn) :: (g, instObj 220 gd) :: (gd, gD w tg ag now) :: (sn, listOf vs.toArray n') :: (dd, tupOf [.str (Str.ofString "prolongate") x1, .str c x3, .int t0 x4] kd) :: (ml, listOf ms.toArray nml) :: (dn, listOf (ds.set (k : Int).toNat (.int (dk + 1) u)).toArray ndn) :: (du, listOf dv.toArray c') :: (L + 1, oa) :: (L + 1 + 1, og) :: (im, instObj 66 di) :: (di, imD w t1 t2 t3 lk auto) :: (lk, ol') :: (tb, ot') :: (tL, listOf tsv.toArray ntl) :: (add ++ rest)) → Q .next { s with heap := h', toks := tk }) :
    wpAny (model prg w) (lawA L fa cd) (execs dBody (lawEnv L fa cd)) Q E s := by
  obtain ⟨heap, gens, drawn, toks, os⟩ := s
  have hps := allC hm1 (allC hm2 (allC hm3 (allC hm4 (allC hm5 (allC hm6 (all1 hm7))))))
  have F0 := fr_known _ hps F
  clear F
  have hk0 : (0 : Int) ≤ (k : Int) := by omega
  have hk3' : (k : Int) < 3 := by omega
  have hx' : ms[(k : Int).toNat]? = some (.ref mgr) := hx
  have hxt' : tsv[(k : Int).toNat]? = some (.ref tb) := hxt
  have hxd' : ds[(k : Int).toNat]? = some (.int dk tdn) := hxd
  have Hlk := nodup_off (pre := [dd, mgr, md, im, di]) (b := lk) hnd
  have Htb := nodup_off (pre := [dd, mgr, md, im, di, lk]) (b := tb) hnd
  have Hsn := nodup_off (pre := [dd, mgr, md, im, di, lk, tb, g, gd]) (b := sn) hnd
  have Hdn := nodup_off (pre := [dd, mgr, md, im, di, lk, tb, g, gd, sn, ml, tL]) (b := dn) hnd
  have Hdu := nodup_off (pre := [dd, mgr, md, im, di, lk, tb, g, gd, sn, ml, tL, dn]) (b := du) hnd
  dsimp only [List.cons_append, List.nil_append] at Hlk Htb Hsn Hdn Hdu
  dsimp only at F0 N hk1 ⊢
  unfold prg at *; revert KX; k_fill; intro KX; w_top off
  have hMk := kstMark
  show wpAny _ _ (execs (_ :: _ :: _ :: _ :: []) _) _ _ _
  k_steps
  unfold Stop
  refine' c_apPro KX T B F9 N9 (hol.mono ?s1) lo1 (own_of ?o1) (Hlk _ (by k_mem)) (Hlk _ (by k_mem)) ?_
  case s1 => intro p hp _; k_ownIn
  case o1 => k_all
  intro h1 tk1 ol1 add1 F1 ht1 N1 hD1
  have N1' := news_sub (l' := (dd, tupOf [.str (Str.ofString "prolongate") x1, .str c x3, .int t0 x4] kd) :: (mgr, instObj 143 md) :: (md, mdD w t im nm auto g last sn) :: (im, instObj 66 di) :: (di, imD w t1 t2 t3 lk auto) :: (lk, ol1) :: (tb, ot) :: (g, instObj 220 gd) :: (gd, gD w tg ag now) :: (sn, listOf vs.toArray n) :: (ml, listOf ms.toArray nml) :: (tL, listOf tsv.toArray ntl) :: (dn, listOf ds.toArray ndn) :: (du, listOf dv.toArray cdu) :: (L + 1, oa) :: (L + 1 + 1, og) :: (add1 ++ rest)) N1 (by kqd_sub)
  clear N1 N9 F9
  k_steps
  unfold Stop
  refine' c_deedPro KX T B F9 (news_sub (l' := (dd, tupOf [.str (Str.ofString "prolongate") x1, .str c x3, .int t0 x4] kd) :: (tb, ot) :: ((mgr, instObj 143 md) :: (md, mdD w t im nm auto g last sn) :: (im, instObj 66 di) :: (di, imD w t1 t2 t3 lk auto) :: (lk, ol1) :: (g, instObj 220 gd) :: (gd, gD w tg ag now) :: (sn, listOf vs.toArray n) :: (ml, listOf ms.toArray nml) :: (tL, listOf tsv.toArray ntl) :: (dn, listOf ds.toArray ndn) :: (du, listOf dv.toArray cdu) :: (L + 1, oa) :: (L + 1 + 1, og) :: (add1 ++ rest))) N9 (by kqd_sub)) (hot.mono ?s2) lo2 (own_of ?o2) ?_
  case s2 => intro p hp _; (first | exact List.mem_append_right _ hp | exact List.mem_append_left _ hp | (repeat (first | exact List.mem_append_right _ hp | exact List.mem_append_left _ hp | refine List.Mem.tail _ ?_)))
  case o2 =>
    have q2 := off_add N9 ht1 (by intro p hp; (first | exact List.mem_append_right _ hp | exact List.mem_append_left _ hp | (repeat (first | exact List.mem_append_right _ hp | exact List.mem_append_left _ hp | refine List.Mem.tail _ ?_)))) (by k_mem) (by rw [(let ⟨_, a, _⟩ := hot; dict_cls a : ot.cls = .type "dict")]; simp) hoff2
    k_all
  intro h2 tk2 ot2 add2 F2 ht2 N2 hD2
  have N2' := news_sub (l' := (mgr, instObj 143 md) :: (md, mdD w t im nm auto g last sn) :: (g, instObj 220 gd) :: (gd, gD w tg ag now) :: (sn, listOf vs.toArray n) :: (dd, tupOf [.str (Str.ofString "prolongate") x1, .str c x3, .int t0 x4] kd) :: (ml, listOf ms.toArray nml) :: (dn, listOf ds.toArray ndn) :: (du, listOf dv.toArray cdu) :: (L + 1, oa) :: (L + 1 + 1, og) :: (im, instObj 66 di) :: (di, imD w t1 t2 t3 lk auto) :: (lk, ol1) :: (tb, ot2) :: (tL, listOf tsv.toArray ntl) :: ((add2 ++ add1) ++ rest)) N2 (by kqd_sub)
  have ht3 := tup_app ht2 ht1
  have hsub3 : ∀ p ∈ add2 ++ add1, p ∈ (mgr, instObj 143 md) :: (md, mdD w t im nm auto g last sn) :: (g, instObj 220 gd) :: (gd, gD w tg ag now) :: (sn, listOf vs.toArray n) :: (dd, tupOf [.str (Str.ofString "prolongate") x1, .str c x3, .int t0 x4] kd) :: (ml, listOf ms.toArray nml) :: (dn, listOf ds.toArray ndn) :: (du, listOf dv.toArray cdu) :: (L + 1, oa) :: (L + 1 + 1, og) :: (im, instObj 66 di) :: (di, imD w t1 t2 t3 lk auto) :: (lk, ol1) :: (tb, ot2) :: (tL, listOf tsv.toArray ntl) :: ((add2 ++ add1) ++ rest) := fun p hp => by
    have := List.mem_append_left rest hp
    k_ownIn
  have q3 := off_add N2' ht3 hsub3 (b := sn) (by k_mem) (by simp) hoff3
  have q4 := off_add N2' ht3 hsub3 (b := dn) (by k_mem) (by simp) hoff4
  have q5 := off_add N2' ht3 hsub3 (b := du) (by k_mem) (by simp) hoff5
  clear N2 hsub3
  (try clear N9)
  (try clear F9)
  (try clear F1)
  have hE1 : DictTab w ((add2 ++ add1) ++ rest) ol1 (proTab f c t0 auto) := by
    refine (only_tuples (W := [(tb, ot), (g, instObj 220 gd), (gd, gD w tg ag now), (sn, listOf vs.toArray n), (ml, listOf ms.toArray nml), (tL, listOf tsv.toArray ntl), (dn, listOf ds.toArray ndn), (du, listOf dv.toArray cdu), (L + 1, oa), (L + 1 + 1, og)]) hD1 ?_).mono fun p hp _ => ?_
    · have hcc := dict_obj_cls hot
      repeat' (first | exact List.forall_mem_nil _ | refine List.forall_mem_cons.mpr ⟨?_, ?_⟩ | exact nt_cell hoa | exact nt_cell hog | (refine nt_cls ?_; simp; done) | (refine nt_cls ?_; simp [hcc]; done))
    · rw [List.append_assoc]; exact List.mem_append_right _ hp
  have hE2 : DictTab w ((add2 ++ add1) ++ rest) ot2 (proTab f c t0 auto) := by
    rw [List.append_assoc]
    refine (only_tuples (W := [(mgr, instObj 143 md), (md, mdD w t im nm auto g last sn), (im, instObj 66 di), (di, imD w t1 t2 t3 lk auto), (lk, ol1), (g, instObj 220 gd), (gd, gD w tg ag now), (sn, listOf vs.toArray n), (ml, listOf ms.toArray nml), (tL, listOf tsv.toArray ntl), (dn, listOf ds.toArray ndn), (du, listOf dv.toArray cdu), (L + 1, oa), (L + 1 + 1, og)]) hD2 ?_)
    · have hcc := dict_obj_cls hD1
      repeat' (first | exact List.forall_mem_nil _ | refine List.forall_mem_cons.mpr ⟨?_, ?_⟩ | exact nt_cell hoa | exact nt_cell hog | (refine nt_cls ?_; simp; done) | (refine nt_cls ?_; simp [hcc]; done))
  k_steps
  all_goals (
    refine' hk1 _ _ _ _ _ (add2 ++ add1) _ _ _ ?z ht3 (by assumption) hE1 hE2 (by assumption)
    case z => intro z hz; simp only [if_neg (ne_of_notin (x := Str.ofString "told") hz (by decide)), kst_back hps])
end
end Mine
namespace Mine
local macro_rules | `(tactic| k_upd) => `(tactic| first | (refine' Upd.head ?a; (case a => k_all)) | (refine' Upd.tail ?a ?b; (case a => (refine neN ?_; (try dsimp only); first | assumption | exact Ne.symm (by assumption) | omega)); (case b => k_upd)))
local macro_rules | `(tactic| k_updF) => `(tactic| first | (refine' UpdF.head ?a; (case a => k_all)) | (refine' UpdF.tail ?a ?b; (case a => (refine neN ?_; (try dsimp only); first | assumption | exact Ne.symm (by assumption) | omega)); (case b => k_updF)))
local macro_rules | `(tactic| k_all) => `(tactic| first | exact List.forall_mem_nil _ | (refine' List.forall_mem_cons.mpr ⟨?a, ?b⟩; (case a => (refine neN ?_; (try dsimp only); first | assumption | exact Ne.symm (by assumption) | omega)); (case b => k_all)) | exact OwnOff.ne (by assumption) (by k_memK))
local macro_rules | `(tactic| walk_at "subscriptTail Name Name ref int") => `(tactic| (k_here; (with_reducible show wpAny _ _ (subscriptTail _ _ (Value.ref _) (Value.int _ _)) _ _ _); k_dflt (refine my_item (by k_asm) (by k_mem) (by assumption) (by assumption) (by assumption) ?_)))
local macro_rules | `(tactic| walk_at "subscriptTail Name Slice ref ref") => `(tactic| (k_here; (with_reducible show wpAny _ _ (subscriptTail _ (PySem.Expr.Slice _ _ none _) (Value.ref _) (Value.ref _)) _ _ _); k_dflt (refine' my_from ?F ?N ?m ?p ?q ?a ?z ?_ ?s ?t; (case F => k_asm); (case N => k_asm); (case m => k_mem); (case p => exact IsPart.int _ _); (case q => exact IsPart.none); (case a => omega); (case z => assumption); (case s => with_unfolding_all rfl); (case t => kmk_pure)); intro D' h' F' N' l1; (try simp only [Int.toNat_natCast] at N'); (try k_lt l1); (try k_sweep)))
local macro_rules | `(tactic| walk_at "binaryOp Add ref ref") => `(tactic| (k_here; k_dflt (refine' my_cat ?F ?N ?m ?b ?z ?z2 ?_; (case F => k_asm); (case N => k_asm); (case m => k_mem); (case b => k_mem); (case z => assumption); (case z2 => assumption)); intro D' h' F' N' l1; (try k_lt l1); (try k_sweep)))
local macro_rules | `(tactic| walk_at "compareOp NotEq ref ref") => `(tactic| (k_here; k_dflt (refine' my_neq ?N ?a ?b ?c ?d ?o ?u ?_; (case N => k_asm); (case a => k_mem); (case b => k_mem); (case c => first | exact DatAll.nil | (refine DatAll.mono ?_ (by assumption); intro p hp; k_ownIn)); (case d => first | exact DatAll.nil | (refine DatAll.mono ?_ (by assumption); intro p hp; k_ownIn)); (case o => assumption); (case u => ke_room))))
local macro_rules | `(tactic| walk_at "compareOp Eq int int") => `(tactic| (first | refine my_eqT (by assumption) ?_ | refine my_eqF (by assumption) ?_))
local macro_rules | `(tactic| walk_at "call builtin:len") => `(tactic| (k_here; (with_reducible show wpAny _ _ (call (Value.builtin "len") [Value.ref _]) _ _ _); k_dflt (refine kst_len (by k_asm) (by k_mem) rfl (by omega) ?_)))
def forKS : Stmt := match turnBody with | [_, _, _, _, _, s, _] => s | _ => .Pass default
def kBody : List Stmt := match forKS with | .For _ _ b _ _ => b | _ => []
section
variable {w : World} {h₀ : Heap} {L fa : Addr} {cd : Value} {mg mb : Str → Option Value} {mean : ExcName → Option Value} {E : Value → Shared → Prop} {Q : Flow → Shared → Prop} {s : Shared} {m : Str → Option Value} {rest : List (Addr × Obj)}
  {mgr md im g sn ml du se lg : Addr} {t : Nat → Tok} {tk0 tw tse : Tok} {auto last : Int} {nm : Str} {vs ms dv ss lv : List Value} {n nml cdu nse nl : Nat} {k wh j : Nat} {sns : List Int} {ds : List Dat}
variable (KX : (Mine.hd.heap_1 w.params).In h₀) (T : Top viewQ (looseW viewQ []) mean mg mb h₀) (B : Below callerA h₀ [] h₀)
include KX T B
set_option maxHeartbeats 4000000 in
theorem t_sentWho (F : Fr h₀ L s.heap m) (hk3 : k < 3) (hkw : (k : Int) = (wh : Int)) (Da : DatAll rest (vs.drop j) ds) (Db : DatAll rest dv ds) (hok : ∀ d ∈ ds, kqdOk 8 d = true)
    (hm1 : m (Str.ofString "k") = some (.int k tk0)) (hm2 : m (Str.ofString "who") = some (.int wh tw)) (hm3 : m (Str.ofString "managers") = some (.ref ml)) (hm4 : m (Str.ofString "seen") = some (.ref se)) (hm5 : m (Str.ofString "due") = some (.ref du)) (hm6 : m (Str.ofString "log") = some (.ref lg))
    (hx : ms[k]? = some (.ref mgr)) (hxs : ss[k]? = some (.int j tse)) (his : IntsAre ss sns) (hsl : sns.length = 3)
    (N : News h₀ L s.heap ((mgr, instObj 143 md) :: (md, mdD w t im nm auto g last sn) :: (sn, listOf vs.toArray n) :: (ml, listOf ms.toArray nml) :: (se, listOf ss.toArray nse) :: (du, listOf dv.toArray cdu) :: (lg, listOf lv.toArray nl) :: rest))
    (hoff : OwnOff rest [se]) (hne1 : @Ne Nat sn se) (hne2 : @Ne Nat ml se) (hne3 : @Ne Nat du se) (hne4 : @Ne Nat lg se) (hlen : vs.length ≤ 1000) (hlen2 : (vs.drop j).length ≤ 1000) (hlen3 : lv.length ≤ 1000)
    (hk : ∀ h' tk m' D u, (∀ z, List.contains [Str.ofString "sent", Str.ofString "log"] z = false → m' z = m z) → m' (Str.ofString "log") = some (.ref D) → Fr h₀ L h' m' → (∀ p ∈ (mgr, instObj 143 md) :: (md, mdD w t im nm auto g last sn) :: (sn, listOf vs.toArray n) :: (ml, listOf ms.toArray nml) :: (se, listOf (ss.set (k : Int).toNat (.int ((j : Int) + (vs.drop j).length) u)).toArray nse) :: (du, listOf dv.toArray cdu) :: (lg, listOf lv.toArray nl) :: rest, p.1 ≠ D) →
      News h₀ L h' ((D, listOf (lv ++ vs.drop j).toArray 0) :: (mgr, instObj 143 md) :: (md, mdD w t im nm auto g last sn) :: (sn, listOf vs.toArray n) :: (ml, listOf ms.toArray nml) :: (se, listOf (ss.set (k : Int).toNat (.int ((j : Int) + (vs.drop j).length) u)).toArray nse) :: (du, listOf dv.toArray cdu) :: (lg, listOf lv.toArray nl) :: rest) → Q .next { s with heap := h', toks := tk }) :
    wpAny (model prg w) (lawA L fa cd) (execs kBody (lawEnv L fa cd)) Q E s := by
  obtain ⟨heap, gens, drawn, toks, os⟩ := s
  have hps := allC hm1 (allC hm2 (allC hm3 (allC hm4 (allC hm5 (all1 hm6)))))
  have F0 := fr_known _ hps F
  clear F
  have hk0 : (0 : Int) ≤ (k : Int) := by omega
  have hk3' : (k : Int) < 3 := by omega
  have hx' : ms[(k : Int).toNat]? = some (.ref mgr) := hx
  have hxs' : ss[(k : Int).toNat]? = some (.int j tse) := hxs
  have e1 : @Ne Nat mgr se := news_ne N (by k_mem) (by k_mem) (ne_cls (by simp))
  have e2 : @Ne Nat md se := news_ne N (by k_mem) (by k_mem) (ne_cls (by simp))
  have hj : ((j : Int)).toNat = j := rfl
  have hn0 : ∀ d ∈ ([] : List Dat), kqdOk 8 d = true := fun _ h => nomatch h
  dsimp only at F0 N hk ⊢
  unfold prg at *; revert KX; k_fill; intro KX; w_top off
  have hMk := kstMark
  show wpAny _ _ (execs (_ :: _ :: _ :: _ :: []) _) _ _ _
  k_steps
  all_goals (
    refine' hk _ _ _ _ _ ?z ?lg (by assumption) ?ne (news_sub (by assumption) ?sub)
    case lg => rfl
    case sub =>
      intro p hp
      rcases List.mem_cons.mp hp with rfl | hp
      · k_mem
      · k_ownIn
    case ne => k_all
    case z => intro z hz; simp only [if_neg (ne_of_notin (x := Str.ofString "sent") hz (by decide)), if_neg (ne_of_notin (x := Str.ofString "log") hz (by decide)), kst_back hps])
set_option maxHeartbeats 4000000 in
theorem t_sentOther (F : Fr h₀ L s.heap m) (hk3 : k < 3) (hkw : (k : Int) ≠ (wh : Int)) (Da : vs.drop j = [])
    (hm1 : m (Str.ofString "k") = some (.int k tk0)) (hm2 : m (Str.ofString "who") = some (.int wh tw)) (hm3 : m (Str.ofString "managers") = some (.ref ml)) (hm4 : m (Str.ofString "seen") = some (.ref se)) (hm5 : m (Str.ofString "due") = some (.ref du)) (hm6 : m (Str.ofString "log") = some (.ref lg))
    (hx : ms[k]? = some (.ref mgr)) (hxs : ss[k]? = some (.int j tse)) (his : IntsAre ss sns) (hsl : sns.length = 3)
    (N : News h₀ L s.heap ((mgr, instObj 143 md) :: (md, mdD w t im nm auto g last sn) :: (sn, listOf vs.toArray n) :: (ml, listOf ms.toArray nml) :: (se, listOf ss.toArray nse) :: (du, listOf dv.toArray cdu) :: (lg, listOf lv.toArray nl) :: rest))
    (hoff : OwnOff rest [se]) (hne1 : @Ne Nat sn se) (hne2 : @Ne Nat ml se) (hne3 : @Ne Nat du se) (hne4 : @Ne Nat lg se) (hlen : vs.length ≤ 1000) (hlen2 : (vs.drop j).length ≤ 1000) (hlen3 : lv.length ≤ 1000)
    (hk : ∀ h' tk m' D u, (∀ z, List.contains [Str.ofString "sent", Str.ofString "log"] z = false → m' z = m z) → m' (Str.ofString "log") = some (.ref D) → Fr h₀ L h' m' → (∀ p ∈ (mgr, instObj 143 md) :: (md, mdD w t im nm auto g last sn) :: (sn, listOf vs.toArray n) :: (ml, listOf ms.toArray nml) :: (se, listOf (ss.set (k : Int).toNat (.int ((j : Int) + (vs.drop j).length) u)).toArray nse) :: (du, listOf dv.toArray cdu) :: (lg, listOf lv.toArray nl) :: rest, p.1 ≠ D) →
      News h₀ L h' ((D, listOf (lv ++ vs.drop j).toArray 0) :: (mgr, instObj 143 md) :: (md, mdD w t im nm auto g last sn) :: (sn, listOf vs.toArray n) :: (ml, listOf ms.toArray nml) :: (se, listOf (ss.set (k : Int).toNat (.int ((j : Int) + (vs.drop j).length) u)).toArray nse) :: (du, listOf dv.toArray cdu) :: (lg, listOf lv.toArray nl) :: rest) → Q .next { s with heap := h', toks := tk }) :
    wpAny (model prg w) (lawA L fa cd) (execs kBody (lawEnv L fa cd)) Q E s := by
  obtain ⟨heap, gens, drawn, toks, os⟩ := s
  have hps := allC hm1 (allC hm2 (allC hm3 (allC hm4 (allC hm5 (all1 hm6)))))
  have F0 := fr_known _ hps F
  clear F
  have hk0 : (0 : Int) ≤ (k : Int) := by omega
  have hk3' : (k : Int) < 3 := by omega
  have hx' : ms[(k : Int).toNat]? = some (.ref mgr) := hx
  have hxs' : ss[(k : Int).toNat]? = some (.int j tse) := hxs
  have e1 : @Ne Nat mgr se := news_ne N (by k_mem) (by k_mem) (ne_cls (by simp))
  have e2 : @Ne Nat md se := news_ne N (by k_mem) (by k_mem) (ne_cls (by simp))
  have hj : ((j : Int)).toNat = j := rfl
  have Da2 : DatAll rest (vs.drop j) [] := by rw [Da]; exact DatAll.nil
  have hn0 : ∀ d ∈ ([] : List Dat), kqdOk 8 d = true := fun _ h => nomatch h
  dsimp only at F0 N hk ⊢
  unfold prg at *; revert KX; k_fill; intro KX; w_top off
  have hMk := kstMark
  show wpAny _ _ (execs (_ :: _ :: _ :: _ :: []) _) _ _ _
  k_steps
  all_goals (
    refine' hk _ _ _ _ _ ?z ?lg (by assumption) ?ne (news_sub (by assumption) ?sub)
    case lg => rfl
    case sub =>
      intro p hp
      rcases List.mem_cons.mp hp with rfl | hp
      · k_mem
      · k_ownIn
    case ne => k_all
    case z => intro z hz; simp only [if_neg (ne_of_notin (x := Str.ofString "sent") hz (by decide)), if_neg (ne_of_notin (x := Str.ofString "log") hz (by decide)), kst_back hps])
end
end Mine
namespace Mine
local macro_rules | `(tactic| k_upd) => `(tactic| first | (refine' Upd.head ?a; (case a => k_all)) | (refine' Upd.tail ?a ?b; (case a => (refine neN ?_; (try dsimp only); first | assumption | exact Ne.symm (by assumption) | omega)); (case b => k_upd)))
local macro_rules | `(tactic| k_updF) => `(tactic| first | (refine' UpdF.head ?a; (case a => k_all)) | (refine' UpdF.tail ?a ?b; (case a => (refine neN ?_; (try dsimp only); first | assumption | exact Ne.symm (by assumption) | omega)); (case b => k_updF)))
local macro_rules | `(tactic| k_all) => `(tactic| first | exact List.forall_mem_nil _ | (refine' List.forall_mem_cons.mpr ⟨?a, ?b⟩; (case a => (refine neN ?_; (try dsimp only); first | assumption | exact Ne.symm (by assumption) | omega)); (case b => k_all)) | exact OwnOff.ne (by assumption) (by k_memK))
local macro_rules | `(tactic| walk_at "subscriptTail Name Name ref int") => `(tactic| (k_here; (with_reducible show wpAny _ _ (subscriptTail _ _ (Value.ref _) (Value.int _ _)) _ _ _); k_dflt (refine my_item (by k_asm) (by k_mem) (by assumption) (by assumption) (by assumption) ?_)))
local macro_rules | `(tactic| walk_at "subscriptTail Name Slice ref ref") => `(tactic| (k_here; (with_reducible show wpAny _ _ (subscriptTail _ (PySem.Expr.Slice _ _ none _) (Value.ref _) (Value.ref _)) _ _ _); k_dflt (refine' my_from ?F ?N ?m ?p ?q ?a ?z ?_ ?s ?t; (case F => k_asm); (case N => k_asm); (case m => k_mem); (case p => exact IsPart.int _ _); (case q => exact IsPart.none); (case a => omega); (case z => assumption); (case s => with_unfolding_all rfl); (case t => kmk_pure)); intro D' h' F' N' l1; (try simp only [Int.toNat_natCast] at N'); (try k_lt l1); (try k_sweep)))
local macro_rules | `(tactic| walk_at "binaryOp Add ref ref") => `(tactic| (k_here; k_dflt (refine' my_cat ?F ?N ?m ?b ?z ?z2 ?_; (case F => k_asm); (case N => k_asm); (case m => k_mem); (case b => k_mem); (case z => assumption); (case z2 => assumption)); intro D' h' F' N' l1; (try k_lt l1); (try k_sweep)))
local macro_rules | `(tactic| walk_at "compareOp NotIn") => `(tactic| (k_here; (with_reducible show wpAny _ _ (compareOp CmpOp.NotIn (Value.ref _) (Value.ref _)) _ _ _); k_dflt (refine' my_notIn ?N ?a ?b ?x ?o ?d ?u ?_; (case N => k_asm); (case a => k_mem); (case b => (refine DatAll.mono ?_ (by assumption); intro p hp; k_ownIn)); (case x => exact DatIn.tuple (by k_mem) (DatAll.cons (DatIn.str _ _) (DatAll.cons (DatIn.str _ _) (DatAll.cons (DatIn.str _ _) DatAll.nil)))); (case o => assumption); (case d => assumption); (case u => ke_room))))
local macro_rules | `(tactic| walk_at "compareOp NotEq ref ref") => `(tactic| (k_here; k_dflt (refine' my_neq ?N ?a ?b ?c ?d ?o ?u ?_; (case N => k_asm); (case a => k_mem); (case b => k_mem); (case c => first | exact DatAll.nil | (refine DatAll.mono ?_ (by assumption); intro p hp; k_ownIn)); (case d => first | exact DatAll.nil | (refine DatAll.mono ?_ (by assumption); intro p hp; k_ownIn)); (case o => assumption); (case u => ke_room))))
local macro_rules | `(tactic| walk_at "compareOp Eq int int") => `(tactic| (first | refine my_eqT (by assumption) ?_ | refine my_eqF (by assumption) ?_))
local macro_rules | `(tactic| walk_at "call builtin:len") => `(tactic| (k_here; (with_reducible show wpAny _ _ (call (Value.builtin "len") [Value.ref _]) _ _ _); k_dflt (refine kst_len (by k_asm) (by k_mem) rfl (by omega) ?_)))
set_option hygiene false in
local macro_rules | `(tactic| walk_at "call ref") => `(tactic| ((with_reducible show wpAny _ _ (call (Value.ref _) _ _) _ _ _); (rename Fr _ _ _ _ => F9); (rename News _ _ _ _ => N9); (refine stop_intro ?_)))
def forLS : Stmt := match turnBody with | [_, _, _, _, _, _, s] => s | _ => .Pass default
def lBody : List Stmt := match forLS with | .For _ _ b _ _ => b | _ => []
def hBody : List Stmt := match lBody with | [_, .For _ _ b _ _, _] => b | _ => []
section
variable {w : World} {h₀ : Heap} {L fa : Addr} {cd : Value} {mg mb : Str → Option Value} {mean : ExcName → Option Value} {E : Value → Shared → Prop} {Q : Flow → Shared → Prop} {s : Shared} {m : Str → Option Value} {rest : List (Addr × Obj)}
  {mgr md im di lk tb g gd sn ml tL nmL lg dn : Addr} {t tg : Nat → Tok} {ag : Nat → Addr} {t1 t2 t3 tl tk0 ta tdn th tnm : Tok} {auto now last hc : Int} {nm l : Str} {ms tsv nms ds lv : List Value} {nml ntl nnm ndn nl : Nat} {oa og ol ot : Obj} {k dk : Nat} {f : Tab} {dds : List Dat}
variable (KX : (Mine.hd.heap_1 w.params).In h₀) (T : Top viewQ (looseW viewQ []) mean mg mb h₀) (B : Below callerA h₀ [] h₀)
include KX T B
open Classical in
set_option maxHeartbeats 4000000 in
theorem t_hold (F : Fr h₀ L s.heap m) (hk3 : k < 3) (Da : DatAll rest (lv.drop dk) dds) (hok : ∀ d ∈ dds, kqdOk 8 d = true) (hokd : kqdOk 8 (Dat.tuple [Dat.str (Str.ofString "release"), Dat.str l, Dat.str nm]) = true)
    (hm1 : m (Str.ofString "k") = some (.int k tk0)) (hm2 : m (Str.ofString "lock") = some (.str l tl)) (hm3 : m (Str.ofString "managers") = some (.ref ml)) (hm4 : m (Str.ofString "tables") = some (.ref tL)) (hm5 : m (Str.ofString "names") = some (.ref nmL)) (hm6 : m (Str.ofString "log") = some (.ref lg)) (hm7 : m (Str.ofString "done") = some (.ref dn)) (hm8 : m (Str.ofString "holders") = some (.int hc th))
    (hx : ms[k]? = some (.ref mgr)) (hxt : tsv[k]? = some (.ref tb)) (hxd : ds[k]? = some (.int dk tdn)) (hxn : nms[k]? = some (.str nm tnm))
    (N : News h₀ L s.heap ((mgr, instObj 143 md) :: (md, mdD w t im nm auto g last sn) :: (im, instObj 66 di) :: (di, imD w t1 t2 t3 lk auto) :: (lk, ol) :: (g, instObj 220 gd) :: (gd, gD w tg ag now) :: (tb, ot) :: (ml, listOf ms.toArray nml) :: (tL, listOf tsv.toArray ntl) :: (nmL, listOf nms.toArray nnm) :: (dn, listOf ds.toArray ndn) :: (lg, listOf lv.toArray nl) :: (L + 1, oa) :: (L + 1 + 1, og) :: rest))
    (hoa : oa.data = .cell (some (.int auto ta))) (hog : og.data = .cell (some (.ref g)))
    (hol : DictTab w rest ol f) (hot : DictTab w rest ot f) (lo1 : (lk == sysModules) = false) (lo2 : (tb == sysModules) = false) (hlen : lv.length ≤ 1000)
    (hk1 : hasTab f l nm now auto = true → Dat.tuple [Dat.str (Str.ofString "release"), Dat.str l, Dat.str nm] ∉ dds → ∀ h' tk m' u, (∀ z, List.contains [Str.ofString "has", Str.ofString "holders"] z = false → m' z = m z) → m' (Str.ofString "holders") = some (.int (hc + 1) u) → Fr h₀ L h' m' →
      News h₀ L h' ((mgr, instObj 143 md) :: (md, mdD w t im nm auto g last sn) :: (im, instObj 66 di) :: (di, imD w t1 t2 t3 lk auto) :: (lk, ol) :: (g, instObj 220 gd) :: (gd, gD w tg ag now) :: (tb, ot) :: (ml, listOf ms.toArray nml) :: (tL, listOf tsv.toArray ntl) :: (nmL, listOf nms.toArray nnm) :: (dn, listOf ds.toArray ndn) :: (lg, listOf lv.toArray nl) :: (L + 1, oa) :: (L + 1 + 1, og) :: rest) → Q .next { s with heap := h', toks := tk })
    (hk0 : ¬ (hasTab f l nm now auto = true ∧ Dat.tuple [Dat.str (Str.ofString "release"), Dat.str l, Dat.str nm] ∉ dds) → ∀ h' tk m' u, (∀ z, List.contains [Str.ofString "has", Str.ofString "holders"] z = false → m' z = m z) → m' (Str.ofString "holders") = some (.int hc u) → Fr h₀ L h' m' →
      News h₀ L h' ((mgr, instObj 143 md) :: (md, mdD w t im nm auto g last sn) :: (im, instObj 66 di) :: (di, imD w t1 t2 t3 lk auto) :: (lk, ol) :: (g, instObj 220 gd) :: (gd, gD w tg ag now) :: (tb, ot) :: (ml, listOf ms.toArray nml) :: (tL, listOf tsv.toArray ntl) :: (nmL, listOf nms.toArray nnm) :: (dn, listOf ds.toArray ndn) :: (lg, listOf lv.toArray nl) :: (L + 1, oa) :: (L + 1 + 1, og) :: rest) → Q .next { s with heap := h', toks := tk }) :
    wpAny (model prg w) (lawA L fa cd) (execs hBody (lawEnv L fa cd)) Q E s := by
  obtain ⟨heap, gens, drawn, toks, os⟩ := s
  have hps := allC hm1 (allC hm2 (allC hm3 (allC hm4 (allC hm5 (allC hm6 (allC hm7 (all1 hm8)))))))
  have F0 := fr_known _ hps F
  clear F
  have hk00 : (0 : Int) ≤ (k : Int) := by omega
  have hk3' : (k : Int) < 3 := by omega
  have hx' : ms[(k : Int).toNat]? = some (.ref mgr) := hx
  have hxt' : tsv[(k : Int).toNat]? = some (.ref tb) := hxt
  have hxd' : ds[(k : Int).toNat]? = some (.int dk tdn) := hxd
  have hxn' : nms[(k : Int).toNat]? = some (.str nm tnm) := hxn
  dsimp only at F0 N hk0 hk1 ⊢
  unfold prg at *; revert KX; k_fill; intro KX; w_top off
  have hMk := kstMark
  show wpAny _ _ (execs (_ :: _ :: _ :: []) _) _ _ _
  k_steps
  unfold Stop
  refine' c_isAcq KX T B F9 N9 (hol.mono ?s1) lo1 ?_
  case s1 => intro p hp _; k_ownIn
  intro h1 tk1 F1 N1
  generalize hhas : hasTab f l nm now auto = hs
  k_steps
  unfold Stop
  refine' c_has KX T B F9 (news_sub (l' := (tb, ot) :: (mgr, instObj 143 md) :: (md, mdD w t im nm auto g last sn) :: (im, instObj 66 di) :: (di, imD w t1 t2 t3 lk auto) :: (lk, ol) :: (g, instObj 220 gd) :: (gd, gD w tg ag now) :: (ml, listOf ms.toArray nml) :: (tL, listOf tsv.toArray ntl) :: (nmL, listOf nms.toArray nnm) :: (dn, listOf ds.toArray ndn) :: (lg, listOf lv.toArray nl) :: (L + 1, oa) :: (L + 1 + 1, og) :: rest) N9 (by kqd_sub)) (hot.mono ?s2) lo2 ?_
  case s2 => intro p hp _; k_ownIn
  intro h2 tk2 F2 N2
  rw [hhas]
  have N2' := news_sub (l' := (mgr, instObj 143 md) :: (md, mdD w t im nm auto g last sn) :: (im, instObj 66 di) :: (di, imD w t1 t2 t3 lk auto) :: (lk, ol) :: (g, instObj 220 gd) :: (gd, gD w tg ag now) :: (tb, ot) :: (ml, listOf ms.toArray nml) :: (tL, listOf tsv.toArray ntl) :: (nmL, listOf nms.toArray nnm) :: (dn, listOf ds.toArray ndn) :: (lg, listOf lv.toArray nl) :: (L + 1, oa) :: (L + 1 + 1, og) :: rest) N2 (by kqd_sub)
  clear N2
  (try clear N9)
  (try clear F9)
  k_steps
  · exfalso
    simp_all
  · refine' hk0 (fun e => e.2 (by assumption)) _ _ _ _ ?z ?e (by assumption) (news_sub (by assumption) ?sub)
    case sub => intro p hp; k_ownIn
    case e => rfl
    case z => intro z hz; simp only [if_neg (ne_of_notin (x := Str.ofString "has") hz (by decide)), if_neg (ne_of_notin (x := Str.ofString "holders") hz (by decide)), kst_back hps]
  · refine' hk1 (hhas.trans (by assumption)) (by assumption) _ _ _ _ ?z ?e (by assumption) (news_sub (by assumption) ?sub)
    case sub => intro p hp; k_ownIn
    case e => rfl
    case z => intro z hz; simp only [if_neg (ne_of_notin (x := Str.ofString "has") hz (by decide)), if_neg (ne_of_notin (x := Str.ofString "holders") hz (by decide)), kst_back hps]
  · refine' hk0 (fun e => Bool.noConfusion ((by assumption : hs = false).symm.trans (hhas.symm.trans e.1))) _ _ _ _ ?z ?e (by assumption) (news_sub (by assumption) ?sub)
    case sub => intro p hp; k_ownIn
    case e => rfl
    case z => intro z hz; simp only [if_neg (ne_of_notin (x := Str.ofString "has") hz (by decide)), if_neg (ne_of_notin (x := Str.ofString "holders") hz (by decide)), kst_back hps]
end
end Mine
namespace Mine
local macro_rules | `(tactic| walk_at "zz") => `(tactic| fail)
local macro_rules | `(tactic| k_upd) => `(tactic| first | (refine' Upd.head ?a; (case a => k_all)) | (refine' Upd.tail ?a ?b; (case a => (refine neN ?_; (try dsimp only); first | assumption | exact Ne.symm (by assumption) | omega)); (case b => k_upd)))
local macro_rules | `(tactic| k_updF) => `(tactic| first | (refine' UpdF.head ?a; (case a => k_all)) | (refine' UpdF.tail ?a ?b; (case a => (refine neN ?_; (try dsimp only); first | assumption | exact Ne.symm (by assumption) | omega)); (case b => k_updF)))
local macro_rules | `(tactic| k_all) => `(tactic| first | exact List.forall_mem_nil _ | (refine' List.forall_mem_cons.mpr ⟨?a, ?b⟩; (case a => (refine neN ?_; (try dsimp only); first | assumption | exact Ne.symm (by assumption) | omega)); (case b => k_all)) | exact OwnOff.ne (by assumption) (by k_memK))
local macro_rules | `(tactic| walk_at "subscriptTail Name Name ref int") => `(tactic| (k_here; (with_reducible show wpAny _ _ (subscriptTail _ _ (Value.ref _) (Value.int _ _)) _ _ _); k_dflt (refine my_item (by k_asm) (by k_mem) (by assumption) (by assumption) (by assumption) ?_)))
local macro_rules | `(tactic| walk_at "subscriptTail Name Slice ref ref") => `(tactic| (k_here; (with_reducible show wpAny _ _ (subscriptTail _ (PySem.Expr.Slice _ _ none _) (Value.ref _) (Value.ref _)) _ _ _); k_dflt (refine' my_run ?F ?N ?m ?p ?q ?a ?b ?z ?_ ?s ?t; (case F => k_asm); (case N => k_asm); (case m => k_mem); (case p => exact IsPart.int _ _); (case q => exact IsPart.int _ _); (case a => omega); (case b => omega); (case z => assumption); (case s => with_unfolding_all rfl); (case t => kmk_pure)); intro D' h' F' N' l1))
local macro_rules | `(tactic| walk_at "exec For Name Subscript cons nil") => `(tactic| (k_here; (rename Fr _ _ _ _ => lF'); (with_unfolding_all refine' For_invVF lF' ?k1 ?k2 ?_ (hE := by assumption); (case k1 => exact rfl); (case k2 => exact rfl); k_whole)))
local macro_rules | `(tactic| walk_at "exec For Name Call cons nil") => `(tactic| (k_here; (rename Fr _ _ _ _ => lF'); (with_unfolding_all refine' For_invVF lF' ?k1 ?k2 ?_ (hE := by assumption); (case k1 => exact rfl); (case k2 => exact rfl); k_whole)))
local macro_rules | `(tactic| walk_at "exec For Name Constant cons nil") => `(tactic| (k_here; (rename Fr _ _ _ _ => lF'); (with_unfolding_all refine' For_invVF lF' ?k1 ?k2 ?_ (hE := by assumption); (case k1 => exact rfl); (case k2 => exact rfl); k_whole)))
local macro_rules | `(tactic| walk_at "compareOp Eq int int") => `(tactic| (first | refine my_eqT (by assumption) ?_ | refine my_eqF (by assumption) ?_))
set_option hygiene false in
local macro_rules | `(tactic| walk_at "pyIter ref") => `(tactic| ((rename Fr _ _ _ _ => F9); (rename News _ _ _ _ => N9); (refine stop_intro ?_)))
set_option hygiene false in
local macro_rules | `(tactic| walk_at "pyIter str") => `(tactic| ((rename Fr _ _ _ _ => F9); (rename News _ _ _ _ => N9); (refine stop_intro ?_)))
theorem xy_sign {i : Nat} {v : Value} (h : PySem.SignAt (Str.ofString "xy") i v) : ∃ l t, v = .str l t ∧ isLock l := by
  obtain ⟨c, t, hc, rfl⟩ := h
  rcases i with _ | _ | i
  · exact ⟨_, _, rfl, .inl (by have : c = 120 := (Option.some.inj hc).symm; subst this; rfl)⟩
  · exact ⟨_, _, rfl, .inr (by have : c = 121 := (Option.some.inj hc).symm; subst this; rfl)⟩
  · have : (Str.ofString "xy").cps.size = 2 := rfl
    rw [Array.getElem?_eq_none (by omega)] at hc
    cases hc
section
variable {w : World} {h₀ : Heap} {L fa : Addr} {cd : Value} {mg mb : Str → Option Value} {mean : ExcName → Option Value} {E : Value → Shared → Prop} {Q : Flow → Shared → Prop} {s : Shared} {m : Str → Option Value} {rest : List (Addr × Obj)}
  {lg dn : Addr} {so far : Int} {ts tf tw tdn : Tok} {ds lv : List Value} {ndn nl : Nat} {k dk : Nat}
variable (KX : (Mine.hd.heap_1 w.params).In h₀) (T : Top viewQ (looseW viewQ []) mean mg mb h₀) (B : Below callerA h₀ [] h₀)
variable (hE : PassesOwn (model prg w) (lawA L fa cd) (lawEnv L fa cd) E)
include KX T B hE
set_option maxHeartbeats 4000000 in
theorem t_for (J : (Str → Option Value) → Nat → (Str → Option Value) → List (Addr × Obj) → Prop) (F : Fr h₀ L s.heap m) (hk3 : k < 3) (hso : 4 ≤ so) (hfar : 0 ≤ far)
    (hm1 : m (Str.ofString "sort") = some (.int so ts)) (hm2 : m (Str.ofString "who") = some (.int k tw)) (hm3 : m (Str.ofString "far") = some (.int far tf)) (hm4 : m (Str.ofString "done") = some (.ref dn)) (hm5 : m (Str.ofString "log") = some (.ref lg))
    (hxd : ds[k]? = some (.int dk tdn)) (hlen : lv.length ≤ 1000)
    (N : News h₀ L s.heap ((dn, listOf ds.toArray ndn) :: (lg, listOf lv.toArray nl) :: rest))
    (hj : J m 0 m ((dn, listOf ds.toArray ndn) :: (lg, listOf lv.toArray nl) :: rest))
    (turn : ∀ i v m₁ nx h tk own Q', ((lv.drop dk).take (((dk : Int) + 1 + far.fmod 4).toNat - dk))[i]? = some v → NoTup own → OwnOff own (nx.map (·.1)) → J m i m₁ nx → Fr h₀ L h (fun y => if y = Str.ofString "deed" then some v else m₁ y) → News h₀ L h (nx ++ own) →
      wpAny (model prg w) (lawA L fa cd) (execs dBody (lawEnv L fa cd)) (InvPostG h₀ L (J m (i + 1)) own { s with heap := h, toks := tk } Q') E { s with heap := h, toks := tk })
    (done : ∀ m₁ nx h tk, J m (((lv.drop dk).take (((dk : Int) + 1 + far.fmod 4).toNat - dk)).length) m₁ nx → Fr h₀ L h m₁ → News h₀ L h nx → Q .next { s with heap := h, toks := tk }) :
    wpAny (model prg w) (lawA L fa cd) (exec ifS (lawEnv L fa cd)) Q E s := by
  obtain ⟨heap, gens, drawn, toks, os⟩ := s
  have hps := allC hm1 (allC hm2 (allC hm3 (allC hm4 (all1 hm5))))
  have F0 := fr_known _ hps F
  clear F
  have hk0 : (0 : Int) ≤ (k : Int) := by omega
  have hk3' : (k : Int) < 3 := by omega
  have hxd' : ds[(k : Int).toNat]? = some (.int dk tdn) := hxd
  have hfm := fmod_lo far (n := 4) (by omega)
  have n0 : so ≠ 0 := by omega
  have n1 : so ≠ 1 := by omega
  have n2 : so ≠ 2 := by omega
  have n3 : so ≠ 3 := by omega
  dsimp only at F0 N done turn ⊢
  unfold prg at *; revert KX; k_fill; intro KX; w_top off
  have hMk := kstMark
  show wpAny _ _ (exec (.If _ _ _ _) _) _ _ _
  k_steps
  unfold Stop
  refine my_iterM J (by rfl) (fr_back hps F9) N9 ?off ((dn, listOf ds.toArray ndn) :: (lg, listOf lv.toArray nl) :: rest) (fun p hp => hp) hj ?_ ?_
  case off => (refine fun p hp => Nat.ne_of_lt ?_); revert p; assumption
  · intro i v m₁ nx h tk own hv hnt hoff hJ F₁ N₁
    exact turn i v m₁ nx h tk own _ hv hnt hoff hJ F₁ N₁
  · intro m₁ nx h tk hJ F₁ N₁
    have hd := done m₁ nx h tk hJ F₁ N₁
    clear done turn
    k_steps
    exact hd
theorem t_forK (J : (Str → Option Value) → Nat → (Str → Option Value) → List (Addr × Obj) → Prop) (F : Fr h₀ L s.heap m) (N : News h₀ L s.heap rest) (hj : J m 0 m rest)
    (turn : ∀ i t m₁ nx h tk own Q', i < 3 → NoTup own → OwnOff own (nx.map (·.1)) → J m i m₁ nx → Fr h₀ L h (fun y => if y = Str.ofString "k" then some (.int (i : Int) t) else m₁ y) → News h₀ L h (nx ++ own) →
      wpAny (model prg w) (lawA L fa cd) (execs kBody (lawEnv L fa cd)) (InvPostG h₀ L (J m (i + 1)) own { s with heap := h, toks := tk } Q') E { s with heap := h, toks := tk })
    (done : ∀ m₁ nx h tk, J m 3 m₁ nx → Fr h₀ L h m₁ → News h₀ L h nx → Q .next { s with heap := h, toks := tk }) :
    wpAny (model prg w) (lawA L fa cd) (exec forKS (lawEnv L fa cd)) Q E s := by
  obtain ⟨heap, gens, drawn, toks, os⟩ := s
  dsimp only at F N done turn ⊢
  unfold prg at *; revert KX; k_fill; intro KX; w_top off
  have hMk := kstMark
  show wpAny _ _ (exec (.For _ _ _ _ _) _) _ _ _
  k_steps
  unfold Stop
  rename IsRange _ _ _ _ _ _ _ _ => hr
  refine my_range (n := 3) (J m) (by rfl) hr (by decide) (by decide) F9 N9 hj ?_ done
  intro i t m₁ nx h tk own hi hnt hoff hJ F₁ N₁
  exact turn i t m₁ nx h tk own _ hi hnt hoff hJ F₁ N₁
theorem t_forL (J : (Str → Option Value) → Nat → (Str → Option Value) → List (Addr × Obj) → Prop) (F : Fr h₀ L s.heap m) (N : News h₀ L s.heap rest) (hj : J m 0 m rest)
    (turn : ∀ i l t m₁ nx h tk own Q', isLock l → NoTup own → OwnOff own (nx.map (·.1)) → J m i m₁ nx → Fr h₀ L h (fun y => if y = Str.ofString "lock" then some (.str l t) else m₁ y) → News h₀ L h (nx ++ own) →
      wpAny (model prg w) (lawA L fa cd) (execs lBody (lawEnv L fa cd)) (InvPostG h₀ L (J m (i + 1)) own { s with heap := h, toks := tk } Q') E { s with heap := h, toks := tk })
    (done : ∀ i m₁ nx h tk, J m i m₁ nx → Fr h₀ L h m₁ → News h₀ L h nx → Q .next { s with heap := h, toks := tk }) :
    wpAny (model prg w) (lawA L fa cd) (exec forLS (lawEnv L fa cd)) Q E s := by
  obtain ⟨heap, gens, drawn, toks, os⟩ := s
  dsimp only at F N done turn ⊢
  unfold prg at *; revert KX; k_fill; intro KX; w_top off
  have hMk := kstMark
  show wpAny _ _ (exec (.For _ _ _ _ _) _) _ _ _
  k_steps
  unfold Stop
  refine my_text (J m) (by rfl) F9 N9 hj ?_ (done _)
  intro i v m₁ nx h tk own hv hnt hoff hJ F₁ N₁
  obtain ⟨l, t, rfl, hl⟩ := xy_sign hv
  exact turn i l t m₁ nx h tk own _ hl hnt hoff hJ F₁ N₁
theorem t_lock (J : (Str → Option Value) → Nat → (Str → Option Value) → List (Addr × Obj) → Prop) (F : Fr h₀ L s.heap m) (N : News h₀ L s.heap rest)
    (hj : ∀ t, J m 0 (fun y => if y = Str.ofString "holders" then some (.int 0 t) else m y) rest)
    (hcnt : ∀ m₁ nx, J m 3 m₁ nx → ∃ c t, m₁ (Str.ofString "holders") = some (.int c t) ∧ ¬ 1 < c)
    (turn : ∀ i t m₁ nx h tk own Q', i < 3 → NoTup own → OwnOff own (nx.map (·.1)) → J m i m₁ nx → Fr h₀ L h (fun y => if y = Str.ofString "k" then some (.int (i : Int) t) else m₁ y) → News h₀ L h (nx ++ own) →
      wpAny (model prg w) (lawA L fa cd) (execs hBody (lawEnv L fa cd)) (InvPostG h₀ L (J m (i + 1)) own { s with heap := h, toks := tk } Q') E { s with heap := h, toks := tk })
    (done : ∀ m₁ nx h tk, J m 3 m₁ nx → Fr h₀ L h m₁ → News h₀ L h nx → Q .next { s with heap := h, toks := tk }) :
    wpAny (model prg w) (lawA L fa cd) (execs lBody (lawEnv L fa cd)) Q E s := by
  obtain ⟨heap, gens, drawn, toks, os⟩ := s
  dsimp only at F N done turn ⊢
  unfold prg at *; revert KX; k_fill; intro KX; w_top off
  have hMk := kstMark
  show wpAny _ _ (execs (_ :: _ :: _ :: []) _) _ _ _
  k_steps
  unfold Stop
  rename IsRange _ _ _ _ _ _ _ _ => hr
  refine my_range (n := 3) (J m) (by rfl) hr (by decide) (by decide) F9 N9 (hj _) ?_ ?_
  · intro i t m₁ nx h tk own hi hnt hoff hJ F₁ N₁
    exact turn i t m₁ nx h tk own _ hi hnt hoff hJ F₁ N₁
  · intro m₁ nx h tk hJ F₁ N₁
    obtain ⟨c, u, hm, hc⟩ := hcnt m₁ nx hJ
    have hd := fun tk => done m₁ nx h tk hJ F₁ N₁
    have hps := all1 hm
    have F2 := fr_known _ hps F₁
    clear done turn hcnt hj F₁ hr F9 N9
    try clear N
    try clear F
    k_steps
    exact hd _
end
end Mine
namespace Mine
inductive Deed where
  | acq (l c : Str) (t : Int)
  | rel (l c : Str)
  | pro (c : Str) (t : Int)
deriving DecidableEq
def Deed.app (auto : Int) (f : Tab) : Deed → Tab
  | .acq l c t => acqTab f l c t auto
  | .rel l c => relTab f l c
  | .pro c t => proTab f c t auto
def Deed.time : Deed → Option Int
  | .acq _ _ t => some t
  | .rel _ _ => none
  | .pro _ t => some t
def tab0 : Tab := fun _ => none
def tabOf (auto : Int) (log : List Deed) : Tab := log.foldl (fun f d => d.app auto f) tab0
def TimesOk (now : Int) (log : List Deed) : Prop :=
  log.Pairwise (fun a b => ∀ s t, a.time = some s → b.time = some t → s ≤ t) ∧ ∀ d ∈ log, ∀ t, d.time = some t → t ≤ now
theorem tabOf_snoc {auto : Int} {p : List Deed} {d : Deed} : tabOf auto (p ++ [d]) = d.app auto (tabOf auto p) := by simp [tabOf]
theorem relTab_cases (f : Tab) (l c : Str) : relTab f l c = f ∨ ((∃ t, f l = some (c, t)) ∧ relTab f l c = fun x => if x = l then none else f x) := by
  cases e : f l with
  | none => left; simp [relTab, e]
  | some q =>
    obtain ⟨c', t'⟩ := q
    by_cases h : c' = c
    · right
      refine ⟨⟨t', by rw [h]⟩, ?_⟩
      simp [relTab, e, h]
    · left; simp [relTab, e, h]
theorem acqTab_cases (f : Tab) (l c : Str) (t auto : Int) : (acqOk f l c t auto = false ∧ acqTab f l c t auto = f) ∨ (acqOk f l c t auto = true ∧ acqTab f l c t auto = fun x => if x = l then some (c, t) else f x) := by
  cases h : acqOk f l c t auto with
  | false => left; exact ⟨rfl, by simp [acqTab, h]⟩
  | true => right; exact ⟨rfl, by simp [acqTab, h]⟩
theorem app_time {auto : Int} {f : Tab} {d : Deed} {l c : Str} {t : Int} (h : d.app auto f l = some (c, t)) : d.time = some t ∨ f l = some (c, t) := by
  cases d with
  | acq l' c' t' =>
    simp only [Deed.app] at h
    rcases acqTab_cases f l' c' t' auto with ⟨_, e⟩ | ⟨_, e⟩
    · rw [e] at h; exact .inr h
    · rw [e] at h
      dsimp only at h
      by_cases q : l = l'
      · rw [if_pos q] at h
        cases h
        exact .inl rfl
      · rw [if_neg q] at h; exact .inr h
  | rel l' c' =>
    simp only [Deed.app] at h
    rcases relTab_cases f l' c' with e | ⟨_, e⟩
    · rw [e] at h; exact .inr h
    · rw [e] at h
      dsimp only at h
      by_cases q : l = l'
      · rw [if_pos q] at h; cases h
      · rw [if_neg q] at h; exact .inr h
  | pro c' t' =>
    simp only [Deed.app, proTab] at h
    cases e : f l with
    | none => rw [e] at h; simp [proOne] at h
    | some q =>
      obtain ⟨c2, t2⟩ := q
      rw [e] at h
      simp only [proOne] at h
      by_cases h1 : auto < t' - t2
      · rw [if_pos h1] at h; cases h
      · rw [if_neg h1] at h
        by_cases h2 : c2 = c'
        · rw [if_pos h2] at h
          cases h
          exact .inl rfl
        · rw [if_neg h2] at h; exact .inr h
theorem fold_time {auto : Int} {l c : Str} {t : Int} : ∀ (p : List Deed) (f : Tab), (p.foldl (fun f d => d.app auto f) f) l = some (c, t) → (∃ d ∈ p, d.time = some t) ∨ f l = some (c, t)
  | [], f, h => .inr h
  | d :: p, f, h => by
    rcases fold_time p _ h with ⟨e, he, ht⟩ | h
    · exact .inl ⟨e, .tail _ he, ht⟩
    · rcases app_time h with h | h
      · exact .inl ⟨d, .head _, h⟩
      · exact .inr h
theorem tab_time {auto : Int} {l c : Str} {t : Int} {p : List Deed} (h : tabOf auto p l = some (c, t)) : ∃ d ∈ p, d.time = some t := by
  rcases fold_time p _ h with h | h
  · exact h
  · cases h
theorem one_keeps {auto now : Int} {f : Tab} {l c : Str} {t : Int} {d : Deed} (hf : f l = some (c, t)) (ht : now - t < auto) (hn : ∀ s, d.time = some s → s ≤ now) (hr : ∀ s, d.time = some s → now - s < auto) (hd : d ≠ .rel l c) :
    ∃ t', d.app auto f l = some (c, t') ∧ now - t' < auto := by
  cases d with
  | acq l' c' t' =>
    simp only [Deed.app]
    rcases acqTab_cases f l' c' t' auto with ⟨_, e⟩ | ⟨ho, e⟩
    · rw [e]; exact ⟨t, hf, ht⟩
    · rw [e]
      dsimp only
      by_cases q : l = l'
      · subst q
        rw [if_pos rfl]
        have h1 := hn t' rfl
        have h2 := hr t' rfl
        simp only [acqOk, hf, Bool.or_eq_true, decide_eq_true_eq] at ho
        rcases ho with ho | ho
        · omega
        · exact ⟨t', by rw [ho], h2⟩
      · rw [if_neg q]; exact ⟨t, hf, ht⟩
  | rel l' c' =>
    simp only [Deed.app]
    rcases relTab_cases f l' c' with e | ⟨⟨t2, e2⟩, e⟩
    · rw [e]; exact ⟨t, hf, ht⟩
    · rw [e]
      dsimp only
      by_cases q : l = l'
      · subst q
        rw [hf] at e2
        cases e2
        exact absurd rfl hd
      · rw [if_neg q]; exact ⟨t, hf, ht⟩
  | pro c' t' =>
    simp only [Deed.app, proTab, hf, proOne]
    have h1 := hn t' rfl
    have h2 := hr t' rfl
    rw [if_neg (by omega)]
    by_cases q : c = c'
    · rw [if_pos q]; exact ⟨t', by rw [q], h2⟩
    · rw [if_neg q]; exact ⟨t, rfl, ht⟩
theorem fold_keeps {auto now : Int} {l c : Str} : ∀ (p : List Deed) (f : Tab) (t : Int), f l = some (c, t) → now - t < auto → (∀ d ∈ p, ∀ s, d.time = some s → s ≤ now) → (∀ d ∈ p, ∀ s, d.time = some s → now - s < auto) → .rel l c ∉ p →
    ∃ t', (p.foldl (fun f d => d.app auto f) f) l = some (c, t') ∧ now - t' < auto
  | [], f, t, hf, ht, _, _, _ => ⟨t, hf, ht⟩
  | d :: p, f, t, hf, ht, hn, hr, hd => by
    obtain ⟨t', h1, h2⟩ := one_keeps hf ht (hn d (.head _)) (hr d (.head _)) (fun e => hd (e ▸ .head _))
    exact fold_keeps p _ t' h1 h2 (fun e he => hn e (.tail _ he)) (fun e he => hr e (.tail _ he)) (fun h => hd (.tail _ h))
theorem has_some {f : Tab} {l c : Str} {now auto : Int} (h : hasTab f l c now auto = true) : ∃ t, f l = some (c, t) ∧ now - t < auto := by
  unfold hasTab at h
  cases e : f l with
  | none => rw [e] at h; cases h
  | some q =>
    obtain ⟨c', t'⟩ := q
    rw [e] at h
    simp only [Bool.and_eq_true, decide_eq_true_eq] at h
    exact ⟨t', by rw [h.1], h.2⟩
theorem mutex_le {auto now : Int} {log : List Deed} {d1 d2 : Nat} {l c1 c2 : Str} (hT : TimesOk now log) (hd : d1 ≤ d2) (h1 : hasTab (tabOf auto (log.take d1)) l c1 now auto = true) (h2 : hasTab (tabOf auto (log.take d2)) l c2 now auto = true)
    (hr : .rel l c1 ∉ log.drop d1) : c1 = c2 := by
  obtain ⟨t1, e1, a1⟩ := has_some h1
  obtain ⟨t2, e2, a2⟩ := has_some h2
  have hsplit : log.take d2 = log.take d1 ++ (log.drop d1).take (d2 - d1) := by
    rw [← List.take_add, Nat.add_sub_cancel' hd]
  have hfold : tabOf auto (log.take d2) = ((log.drop d1).take (d2 - d1)).foldl (fun f d => d.app auto f) (tabOf auto (log.take d1)) := by
    rw [hsplit]; simp [tabOf]
  obtain ⟨d0, hd0, ht0⟩ := tab_time e1
  have hmem : ∀ d ∈ (log.drop d1).take (d2 - d1), d ∈ log.drop d1 := fun d h => List.mem_of_mem_take h
  have hpair : ∀ a ∈ log.take d1, ∀ b ∈ log.drop d1, ∀ s t, a.time = some s → b.time = some t → s ≤ t := by
    have := hT.1
    rw [← List.take_append_drop d1 log, List.pairwise_append] at this
    exact this.2.2
  obtain ⟨t', e', _⟩ := fold_keeps ((log.drop d1).take (d2 - d1)) (tabOf auto (log.take d1)) t1 e1 a1 (fun d h => hT.2 d (List.mem_of_mem_drop (hmem d h)))
    (fun d h s hs => by have := hpair d0 hd0 d (hmem d h) t1 s ht0 hs; omega) (fun h => hr (hmem _ h))
  rw [← hfold, e2] at e'
  cases e'
  rfl
theorem mutex {auto now : Int} {log : List Deed} {d1 d2 : Nat} {l c1 c2 : Str} (hT : TimesOk now log) (h1 : hasTab (tabOf auto (log.take d1)) l c1 now auto = true) (h2 : hasTab (tabOf auto (log.take d2)) l c2 now auto = true)
    (hr1 : .rel l c1 ∉ log.drop d1) (hr2 : .rel l c2 ∉ log.drop d2) : c1 = c2 := by
  rcases Nat.le_total d1 d2 with h | h
  · exact mutex_le hT h h1 h2 hr1
  · exact (mutex_le hT h h2 h1 hr2).symm
theorem times_later {now now' : Int} {log : List Deed} (h : TimesOk now log) (hn : now ≤ now') : TimesOk now' log := ⟨h.1, fun d hd t ht => Int.le_trans (h.2 d hd t ht) hn⟩
theorem times_app {now : Int} {log new : List Deed} (h : TimesOk now log) (hn : ∀ d ∈ new, ∀ t, d.time = some t → t = now) : TimesOk now (log ++ new) := by
  refine ⟨List.pairwise_append.mpr ⟨h.1, ?_, ?_⟩, ?_⟩
  · refine List.pairwise_of_forall_mem_list ?_
    intro a ha b hb s t hs ht
    rw [hn a ha s hs, hn b hb t ht]; exact Int.le_refl _
  · intro a ha b hb s t hs ht
    rw [hn b hb t ht]; exact h.2 a ha s hs
  · intro d hd t ht
    rcases List.mem_append.mp hd with hd | hd
    · exact h.2 d hd t ht
    · rw [hn d hd t ht]; exact Int.le_refl _
theorem tabOf_next {auto : Int} {log : List Deed} {j : Nat} {d : Deed} (h : log[j]? = some d) : tabOf auto (log.take (j + 1)) = d.app auto (tabOf auto (log.take j)) := by
  rw [List.take_add_one, h]; exact tabOf_snoc
end Mine
namespace Mine
def Deed.dat : Deed → Dat
  | .acq l c t => .tuple [.str (Str.ofString "acquire"), .str l, .str c, .int t]
  | .rel l c => .tuple [.str (Str.ofString "release"), .str l, .str c]
  | .pro c t => .tuple [.str (Str.ofString "prolongate"), .str c, .int t]
def isName (c : Str) : Prop := ∃ k, c = nmS k
def Deed.ok : Deed → Prop
  | .acq l c _ => isLock l ∧ isName c
  | .rel l c => isLock l ∧ isName c
  | .pro c _ => isName c
def DeedAt (nx : List (Addr × Obj)) (v : Value) : Deed → Prop
  | .acq l c t => ∃ a x1 x2 x3 x4 n, v = .ref a ∧ (a, tupOf [.str (Str.ofString "acquire") x1, .str l x2, .str c x3, .int t x4] n) ∈ nx
  | .rel l c => ∃ a x1 x2 x3 n, v = .ref a ∧ (a, tupOf [.str (Str.ofString "release") x1, .str l x2, .str c x3] n) ∈ nx
  | .pro c t => ∃ a x1 x3 x4 n, v = .ref a ∧ (a, tupOf [.str (Str.ofString "prolongate") x1, .str c x3, .int t x4] n) ∈ nx
inductive DeedsAre (nx : List (Addr × Obj)) : List Value → List Deed → Prop
  | nil : DeedsAre nx [] []
  | cons {v vs d ds} : DeedAt nx v d → DeedsAre nx vs ds → DeedsAre nx (v :: vs) (d :: ds)
def TupSub (nx nx' : List (Addr × Obj)) : Prop := ∀ a vs n, (a, tupOf vs n) ∈ nx → (a, tupOf vs n) ∈ nx'
theorem TupSub.of_sub {nx nx' : List (Addr × Obj)} (h : ∀ p ∈ nx, p ∈ nx') : TupSub nx nx' := fun _ _ _ hm => h _ hm
theorem TupSub.trans {a b c : List (Addr × Obj)} (h : TupSub a b) (k : TupSub b c) : TupSub a c := fun x vs n hm => k _ _ _ (h _ _ _ hm)
theorem DeedAt.mono {nx nx' v d} (h : DeedAt nx v d) (hs : TupSub nx nx') : DeedAt nx' v d := by
  cases d with
  | acq l c t => obtain ⟨a, x1, x2, x3, x4, n, e, hm⟩ := h; exact ⟨a, x1, x2, x3, x4, n, e, hs _ _ _ hm⟩
  | rel l c => obtain ⟨a, x1, x2, x3, n, e, hm⟩ := h; exact ⟨a, x1, x2, x3, n, e, hs _ _ _ hm⟩
  | pro c t => obtain ⟨a, x1, x3, x4, n, e, hm⟩ := h; exact ⟨a, x1, x3, x4, n, e, hs _ _ _ hm⟩
theorem DeedsAre.mono {nx nx' vs ds} (h : DeedsAre nx vs ds) (hs : TupSub nx nx') : DeedsAre nx' vs ds := by
  induction h with
  | nil => exact .nil
  | cons a _ ih => exact .cons (a.mono hs) ih
theorem DeedsAre.append {nx vs ds ws es} (h : DeedsAre nx vs ds) (k : DeedsAre nx ws es) : DeedsAre nx (vs ++ ws) (ds ++ es) := by
  induction h with
  | nil => exact k
  | cons a _ ih => exact .cons a ih
theorem DeedsAre.length {nx vs ds} (h : DeedsAre nx vs ds) : vs.length = ds.length := by
  induction h with
  | nil => rfl
  | cons _ _ ih => simp [ih]
theorem DeedsAre.drop {nx vs ds} (h : DeedsAre nx vs ds) : ∀ j, DeedsAre nx (vs.drop j) (ds.drop j) := by
  induction h with
  | nil => intro j; simp; exact .nil
  | cons a r ih =>
    intro j
    cases j with
    | zero => exact .cons a r
    | succ j => exact ih j
theorem DeedsAre.take {nx vs ds} (h : DeedsAre nx vs ds) : ∀ j, DeedsAre nx (vs.take j) (ds.take j) := by
  induction h with
  | nil => intro j; simp; exact .nil
  | cons a r ih =>
    intro j
    cases j with
    | zero => exact .nil
    | succ j => exact .cons a (ih j)
theorem DeedsAre.get {nx : List (Addr × Obj)} {vs : List Value} {ds : List Deed} (h : DeedsAre nx vs ds) : ∀ {j : Nat} {v : Value}, vs[j]? = some v → ∃ d, ds[j]? = some d ∧ DeedAt nx v d := by
  induction h with
  | nil => intro j v e; simp at e
  | cons a r ih =>
    intro j v e
    cases j with
    | zero => simp at e; subst e; exact ⟨_, rfl, a⟩
    | succ j => exact ih (by simpa using e)
theorem DeedAt.dat {nx v d} (h : DeedAt nx v d) : DatIn nx v d.dat := by
  cases d with
  | acq l c t => obtain ⟨a, x1, x2, x3, x4, n, rfl, hm⟩ := h; exact .tuple hm (.cons (.str _ _) (.cons (.str _ _) (.cons (.str _ _) (.cons (.int _ _) .nil))))
  | rel l c => obtain ⟨a, x1, x2, x3, n, rfl, hm⟩ := h; exact .tuple hm (.cons (.str _ _) (.cons (.str _ _) (.cons (.str _ _) .nil)))
  | pro c t => obtain ⟨a, x1, x3, x4, n, rfl, hm⟩ := h; exact .tuple hm (.cons (.str _ _) (.cons (.str _ _) (.cons (.int _ _) .nil)))
theorem DeedsAre.dat {nx vs ds} (h : DeedsAre nx vs ds) : DatAll nx vs (ds.map Deed.dat) := by
  induction h with
  | nil => exact .nil
  | cons a _ ih => exact .cons a.dat ih
theorem dat_rel_mem {l c : Str} : ∀ {ds : List Deed}, Dat.tuple [Dat.str (Str.ofString "release"), Dat.str l, Dat.str c] ∈ ds.map Deed.dat ↔ Deed.rel l c ∈ ds := by
  intro ds
  constructor
  · intro h
    obtain ⟨d, hd, e⟩ := List.mem_map.mp h
    cases d with
    | acq l' c' t' => simp [Deed.dat] at e
    | rel l' c' => simp only [Deed.dat, Dat.tuple.injEq, List.cons.injEq, Dat.str.injEq, true_and, and_true] at e; rw [← e.1, ← e.2]; exact hd
    | pro c' t' => simp [Deed.dat] at e
  · intro h; exact List.mem_map.mpr ⟨_, h, rfl⟩
theorem ok_str {c : Str} (h : isName c) : PyData.strOk c = true := by
  obtain ⟨k, rfl⟩ := h
  rcases k with _ | _ | k
  · show PyData.strOk (Str.ofString "a") = true; decide +kernel
  · show PyData.strOk (Str.ofString "b") = true; decide +kernel
  · show PyData.strOk (Str.ofString "c") = true; decide +kernel
theorem ok_lock {c : Str} (h : isLock c) : PyData.strOk c = true := by rcases h with rfl | rfl <;> decide +kernel
theorem deed_kqd {d : Deed} (h : d.ok) : kqdOk 8 d.dat = true := by
  cases d with
  | acq l c t => simp [Deed.dat, kqdOk, ok_str h.2, ok_lock h.1]; decide +kernel
  | rel l c => simp [Deed.dat, kqdOk, ok_str h.2, ok_lock h.1]; decide +kernel
  | pro c t => simp [Deed.dat, kqdOk, ok_str (show isName c from h)]; decide +kernel
inductive SK where
  | ca | cg | g | gd | nm | ml | tl | dn | rd | se | du | lg
  | mg (k : Nat) | md (k : Nat) | im (k : Nat) | di (k : Nat) | lk (k : Nat) | sn (k : Nat) | tb (k : Nat)
deriving DecidableEq
def SK.ok : SK → Prop
  | .mg k | .md k | .im k | .di k | .lk k | .sn k | .tb k => k < 3
  | _ => True
structure St where
  auto : Int
  now : Int
  last : Nat → Int
  tab : Nat → Tab
  sent : Nat → List Deed
  done : Nat → Nat
  seen : Nat → Nat
  due : List Deed
  log : List Deed
def Slot (w : World) (Y : SK → Addr) (σ : St) (nx : List (Addr × Obj)) : SK → Obj → Prop
  | .ca, o => ∃ t, o.data = .cell (some (.int σ.auto t))
  | .cg, o => o.data = .cell (some (.ref (Y .g)))
  | .g, o => o = instObj 220 (Y .gd)
  | .gd, o => ∃ t a, o = gD w t a σ.now
  | .nm, o => ∃ n t0 t1 t2, o = listOf [Value.str (nmS 0) t0, .str (nmS 1) t1, .str (nmS 2) t2].toArray n
  | .ml, o => ∃ n, o = listOf [Value.ref (Y (.mg 0)), .ref (Y (.mg 1)), .ref (Y (.mg 2))].toArray n
  | .tl, o => ∃ n, o = listOf [Value.ref (Y (.tb 0)), .ref (Y (.tb 1)), .ref (Y (.tb 2))].toArray n
  | .dn, o => ∃ n t0 t1 t2, o = listOf [Value.int (σ.done 0) t0, .int (σ.done 1) t1, .int (σ.done 2) t2].toArray n
  | .rd, o => ∃ n t0 t1 t2, o = listOf [Value.int (σ.last 0) t0, .int (σ.last 1) t1, .int (σ.last 2) t2].toArray n
  | .se, o => ∃ n t0 t1 t2, o = listOf [Value.int (σ.seen 0) t0, .int (σ.seen 1) t1, .int (σ.seen 2) t2].toArray n
  | .du, o => ∃ vs n, o = listOf vs.toArray n ∧ DeedsAre nx vs σ.due
  | .lg, o => ∃ vs n, o = listOf vs.toArray n ∧ DeedsAre nx vs σ.log
  | .mg k, o => o = instObj 143 (Y (.md k))
  | .md k, o => ∃ t, o = mdD w t (Y (.im k)) (nmS k) σ.auto (Y .g) (σ.last k) (Y (.sn k))
  | .im k, o => o = instObj 66 (Y (.di k))
  | .di k, o => ∃ t1 t2 t3, o = imD w t1 t2 t3 (Y (.lk k)) σ.auto
  | .lk k, o => DictTab w nx o (σ.tab k) ∧ (Y (.lk k) == sysModules) = false
  | .sn k, o => ∃ vs n, o = listOf vs.toArray n ∧ DeedsAre nx vs (σ.sent k)
  | .tb k, o => DictTab w nx o (σ.tab k) ∧ (Y (.tb k) == sysModules) = false
def SameAt (σ σ' : St) : SK → Prop
  | .ca => σ.auto = σ'.auto
  | .gd => σ.now = σ'.now
  | .dn => ∀ k, k < 3 → σ.done k = σ'.done k
  | .rd => ∀ k, k < 3 → σ.last k = σ'.last k
  | .se => ∀ k, k < 3 → σ.seen k = σ'.seen k
  | .du => σ.due = σ'.due
  | .lg => σ.log = σ'.log
  | .md k => σ.auto = σ'.auto ∧ σ.last k = σ'.last k
  | .di _ => σ.auto = σ'.auto
  | .lk k | .tb k => σ.tab k = σ'.tab k
  | .sn k => σ.sent k = σ'.sent k
  | _ => True
theorem Slot.next {w Y σ σ' nx nx' s o} (h : Slot w Y σ nx s o) (e : SameAt σ σ' s) (hs : TupSub nx nx') : Slot w Y σ' nx' s o := by
  cases s with
  | ca => simp only [SameAt] at e; simp only [Slot] at h ⊢; rw [← e]; exact h
  | gd => simp only [SameAt] at e; simp only [Slot] at h ⊢; rw [← e]; exact h
  | dn => simp only [SameAt] at e; simp only [Slot] at h ⊢; rw [← e 0 (by omega), ← e 1 (by omega), ← e 2 (by omega)]; exact h
  | rd => simp only [SameAt] at e; simp only [Slot] at h ⊢; rw [← e 0 (by omega), ← e 1 (by omega), ← e 2 (by omega)]; exact h
  | se => simp only [SameAt] at e; simp only [Slot] at h ⊢; rw [← e 0 (by omega), ← e 1 (by omega), ← e 2 (by omega)]; exact h
  | md k => simp only [SameAt] at e; simp only [Slot] at h ⊢; rw [← e.1, ← e.2]; exact h
  | di k => simp only [SameAt] at e; simp only [Slot] at h ⊢; rw [← e]; exact h
  | lk k => simp only [SameAt] at e; simp only [Slot] at h ⊢; rw [← e]; exact ⟨h.1.mono2 hs, h.2⟩
  | tb k => simp only [SameAt] at e; simp only [Slot] at h ⊢; rw [← e]; exact ⟨h.1.mono2 hs, h.2⟩
  | sn k => simp only [SameAt] at e; simp only [Slot] at h ⊢; rw [← e]; obtain ⟨vs, n, a, b⟩ := h; exact ⟨vs, n, a, b.mono hs⟩
  | du => simp only [SameAt] at e; simp only [Slot] at h ⊢; rw [← e]; obtain ⟨vs, n, a, b⟩ := h; exact ⟨vs, n, a, b.mono hs⟩
  | lg => simp only [SameAt] at e; simp only [Slot] at h ⊢; rw [← e]; obtain ⟨vs, n, a, b⟩ := h; exact ⟨vs, n, a, b.mono hs⟩
  | cg => exact h
  | g => exact h
  | nm => exact h
  | ml => exact h
  | tl => exact h
  | mg k => exact h
  | im k => exact h
theorem Slot.notTup {w Y σ nx s o} (h : Slot w Y σ nx s o) (a : Addr) : NotTup (a, o) := by
  cases s with
  | ca => obtain ⟨t, h⟩ := h; exact nt_cell h
  | cg => exact nt_cell h
  | g => subst h; exact nt_cls (by simp)
  | gd => obtain ⟨t, a, rfl⟩ := h; exact nt_cls (by simp)
  | nm => obtain ⟨_, _, _, _, rfl⟩ := h; exact nt_cls (by simp)
  | ml => obtain ⟨_, rfl⟩ := h; exact nt_cls (by simp)
  | tl => obtain ⟨_, rfl⟩ := h; exact nt_cls (by simp)
  | dn => obtain ⟨_, _, _, _, rfl⟩ := h; exact nt_cls (by simp)
  | rd => obtain ⟨_, _, _, _, rfl⟩ := h; exact nt_cls (by simp)
  | se => obtain ⟨_, _, _, _, rfl⟩ := h; exact nt_cls (by simp)
  | du => obtain ⟨_, _, rfl, _⟩ := h; exact nt_cls (by simp)
  | lg => obtain ⟨_, _, rfl, _⟩ := h; exact nt_cls (by simp)
  | mg k => subst h; exact nt_cls (by simp)
  | md k => obtain ⟨_, rfl⟩ := h; exact nt_cls (by simp)
  | im k => subst h; exact nt_cls (by simp)
  | di k => obtain ⟨_, _, _, rfl⟩ := h; exact nt_cls (by simp)
  | lk k => exact nt_cls (by rw [dict_obj_cls h.1]; simp)
  | sn k => obtain ⟨_, _, rfl, _⟩ := h; exact nt_cls (by simp)
  | tb k => exact nt_cls (by rw [dict_obj_cls h.1]; simp)
structure Inv (w : World) (L : Addr) (Y : SK → Addr) (σ : St) (nx : List (Addr × Obj)) : Prop where
  inj : ∀ a b, a.ok → b.ok → Y a = Y b → a = b
  ca : Y .ca = L + 1
  cg : Y .cg = L + 1 + 1
  has : ∀ s, s.ok → ∃ o, (Y s, o) ∈ nx ∧ Slot w Y σ nx s o
def offS (Y : SK → Addr) (S : List SK) (nx : List (Addr × Obj)) : List (Addr × Obj) := nx.filter fun p => !((S.map Y).any fun a => Nat.beq a p.1)
theorem mem_offS {Y S nx p} : p ∈ offS Y S nx ↔ p ∈ nx ∧ ∀ s ∈ S, p.1 ≠ Y s := by
  unfold offS
  rw [List.mem_filter]
  refine and_congr_right fun _ => ?_
  simp only [Bool.not_eq_true', List.any_eq_false, List.mem_map]
  constructor
  · intro h s hs e
    exact h (Y s) ⟨s, hs, rfl⟩ (by rw [e]; exact Nat.beq_refl _)
  · rintro h a ⟨s, hs, rfl⟩ e
    exact h s hs (Nat.eq_of_beq_eq_true e).symm
theorem offS_own {Y S nx s} (hs : s ∈ S) : OwnOff (offS Y S nx) [Y s] := own_of fun _ hp => (mem_offS.mp hp).2 s hs
theorem tup_offS {h₀ h : Heap} {L : Addr} {w Y σ nx S} (N : News h₀ L h nx) (I : Inv w L Y σ nx) (hS : ∀ s ∈ S, s.ok) : TupSub nx (offS Y S nx) := by
  intro a vs n hm
  refine mem_offS.mpr ⟨hm, fun s hs e => ?_⟩
  obtain ⟨o, ho, hsl⟩ := I.has s (hS s hs)
  have e' : a = Y s := e
  subst e'
  have h1 := (N _ hm).1
  have h2 := (N _ ho).1
  rw [h1] at h2
  exact hsl.notTup (Y s) vs n (Option.some.inj h2).symm
theorem Inv.next {w L Y σ σ' nx nx'} (I : Inv w L Y σ nx) (S : List SK) (hok : ∀ s ∈ S, s.ok) (hS : ∀ s ∈ S, ∃ o, (Y s, o) ∈ nx' ∧ Slot w Y σ' nx' s o) (hK : ∀ p ∈ offS Y S nx, p ∈ nx') (hT : TupSub nx nx')
    (hσ : ∀ s, s ∉ S → s.ok → SameAt σ σ' s) : Inv w L Y σ' nx' where
  inj := I.inj
  ca := I.ca
  cg := I.cg
  has := fun s hs => by
    by_cases hm : s ∈ S
    · exact hS s hm
    · obtain ⟨o, ho, hsl⟩ := I.has s hs
      exact ⟨o, hK _ (mem_offS.mpr ⟨ho, fun s' hs' e => hm (I.inj _ _ hs (hok s' hs') e ▸ hs')⟩), hsl.next (hσ s hm hs) hT⟩
theorem Inv.ne {w L Y σ nx} (I : Inv w L Y σ nx) {a b : SK} (ha : a.ok) (hb : b.ok) (h : a ≠ b) : @Ne Nat (Y a) (Y b) := fun e => h (I.inj a b ha hb e)
def upY (Y : SK → Addr) (x : SK) (D : Addr) : SK → Addr := fun s => if s = x then D else Y s
theorem upY_self {Y x D} : upY Y x D x = D := by simp [upY]
theorem upY_ne {Y x D s} (h : s ≠ x) : upY Y x D s = Y s := by simp [upY, h]
theorem Slot.up {w Y σ nx s o x D} (h : Slot w Y σ nx s o) (hx : x = .du ∨ x = .lg) : Slot w (upY Y x D) σ nx s o := by
  rcases hx with rfl | rfl <;> cases s <;> exact h
theorem Inv.renew {w L Y σ σ' nx nx' x D} (I : Inv w L Y σ nx) (hx : x = .du ∨ x = .lg) (hD : ∀ s, s.ok → D ≠ Y s) (o : Obj) (ho : (D, o) ∈ nx') (hs : Slot w (upY Y x D) σ' nx' x o) (hK : ∀ p ∈ nx, p ∈ nx') (hσ : ∀ s, s ≠ x → s.ok → SameAt σ σ' s) : Inv w L (upY Y x D) σ' nx' where
  inj := fun a b ha hb e => by
    unfold upY at e
    by_cases h1 : a = x
    · by_cases h2 : b = x
      · rw [h1, h2]
      · rw [if_pos h1, if_neg h2] at e; exact absurd e (hD b hb)
    · by_cases h2 : b = x
      · rw [if_neg h1, if_pos h2] at e; exact absurd e.symm (hD a ha)
      · rw [if_neg h1, if_neg h2] at e; exact I.inj a b ha hb e
  ca := by rw [upY_ne (by rcases hx with rfl | rfl <;> simp)]; exact I.ca
  cg := by rw [upY_ne (by rcases hx with rfl | rfl <;> simp)]; exact I.cg
  has := fun s hs' => by
    by_cases h1 : s = x
    · subst h1; rw [upY_self]; exact ⟨o, ho, hs⟩
    · rw [upY_ne h1]
      obtain ⟨o', ho', hsl⟩ := I.has s hs'
      exact ⟨o', hK _ ho', (hsl.next (hσ s h1 hs') (TupSub.of_sub hK)).up hx⟩
def Own (Y : SK → Addr) (own nx : List (Addr × Obj)) : Prop := ∀ p ∈ own, p ∈ nx ∧ ∀ s, s.ok → p.1 ≠ Y s
structure LF (Y : SK → Addr) (m : Str → Option Value) : Prop where
  ml : m (Str.ofString "managers") = some (.ref (Y .ml))
  tl : m (Str.ofString "tables") = some (.ref (Y .tl))
  nm : m (Str.ofString "names") = some (.ref (Y .nm))
  dn : m (Str.ofString "done") = some (.ref (Y .dn))
  rd : m (Str.ofString "rounds") = some (.ref (Y .rd))
  se : m (Str.ofString "seen") = some (.ref (Y .se))
  lg : m (Str.ofString "log") = some (.ref (Y .lg))
theorem LF.keep {Y m m'} (h : LF Y m) (names : List Str) (hm : ∀ z, names.contains z = false → m' z = m z) (hn : ([Str.ofString "managers", Str.ofString "tables", Str.ofString "names", Str.ofString "done", Str.ofString "rounds", Str.ofString "seen", Str.ofString "log"].all fun z => !names.contains z) = true) : LF Y m' := by
  simp only [List.all_cons, List.all_nil, Bool.and_true, Bool.and_eq_true, Bool.not_eq_true'] at hn
  obtain ⟨a1, a2, a3, a4, a5, a6, a7⟩ := hn
  exact ⟨(hm _ a1).trans h.ml, (hm _ a2).trans h.tl, (hm _ a3).trans h.nm, (hm _ a4).trans h.dn, (hm _ a5).trans h.rd, (hm _ a6).trans h.se, (hm _ a7).trans h.lg⟩
structure HF (Y : SK → Addr) (m : Str → Option Value) (so far : Int) (k : Nat) (l : Str) : Prop where
  sort : ∃ t, m (Str.ofString "sort") = some (.int so t)
  who : ∃ t, m (Str.ofString "who") = some (.int k t)
  lock : ∃ t, m (Str.ofString "lock") = some (.str l t)
  far : ∃ t, m (Str.ofString "far") = some (.int far t)
  name : ∃ t, m (Str.ofString "name") = some (.str (nmS k) t)
  due : m (Str.ofString "due") = some (.ref (Y .du))
theorem deedAcq {nx : List (Addr × Obj)} {a : Addr} {l c : Str} {t : Int} {x1 x2 x3 x4 : Tok} {n : Nat} (h : (a, tupOf [.str (Str.ofString "acquire") x1, .str l x2, .str c x3, .int t x4] n) ∈ nx) : DeedAt nx (.ref a) (.acq l c t) := ⟨a, x1, x2, x3, x4, n, rfl, h⟩
theorem deedRel {nx : List (Addr × Obj)} {a : Addr} {l c : Str} {x1 x2 x3 : Tok} {n : Nat} (h : (a, tupOf [.str (Str.ofString "release") x1, .str l x2, .str c x3] n) ∈ nx) : DeedAt nx (.ref a) (.rel l c) := ⟨a, x1, x2, x3, n, rfl, h⟩
theorem deedPro {nx : List (Addr × Obj)} {a : Addr} {c : Str} {t : Int} {x1 x3 x4 : Tok} {n : Nat} (h : (a, tupOf [.str (Str.ofString "prolongate") x1, .str c x3, .int t x4] n) ∈ nx) : DeedAt nx (.ref a) (.pro c t) := ⟨a, x1, x3, x4, n, rfl, h⟩
end Mine
namespace Mine
def updN {α : Type} (f : Nat → α) (k : Nat) (v : α) : Nat → α := fun i => if i = k then v else f i
theorem updN_self {α : Type} {f : Nat → α} {k : Nat} {v : α} : updN f k v k = v := by simp [updN]
theorem updN_ne {α : Type} {f : Nat → α} {k i : Nat} {v : α} (h : i ≠ k) : updN f k v i = f i := by simp [updN, h]
structure Pre (σ : St) : Prop where
  auto : 0 < σ.auto
  tab : ∀ k, k < 3 → σ.tab k = tabOf σ.auto (σ.log.take (σ.done k)) ∧ σ.done k ≤ σ.log.length
  sent : ∀ k, k < 3 → (σ.sent k).length ≤ 900
  log : σ.log.length ≤ 900
  ok : ∀ d ∈ σ.log, d.ok
  due : σ.due = []
structure Mid (σ σ' : St) (wh : Nat) : Prop where
  auto : σ'.auto = σ.auto
  now : σ.now ≤ σ'.now
  seen : σ'.seen = σ.seen
  log : σ'.log = σ.log
  sent : ∀ k, k < 3 → σ'.sent k = if k = wh then σ.sent k ++ σ'.due else σ.sent k
  tab : ∀ k, k < 3 → σ'.tab k = tabOf σ.auto (σ.log.take (σ'.done k)) ∧ σ'.done k ≤ σ.log.length
  okD : ∀ d ∈ σ'.due, d.ok ∧ ∀ t, d.time = some t → t = σ'.now
  len : σ'.due.length ≤ 4
theorem fam {α : Type} {f : Nat → α} {k : Nat} (hk : k < 3) : [f 0, f 1, f 2][k]? = some (f k) := by
  rcases k with _ | _ | _ | k
  · rfl
  · rfl
  · rfl
  · omega
abbrev stay : List Str := [Str.ofString "leader", Str.ofString "deed", Str.ofString "told", Str.ofString "late"]
section
variable {w : World} {h₀ : Heap} {L fa : Addr} {cd : Value} {mg mb : Str → Option Value} {mean : ExcName → Option Value} {E : Value → Shared → Prop} {Q : Flow → Shared → Prop} {s : Shared} {m : Str → Option Value}
  {Y : SK → Addr} {σ : St} {nx own : List (Addr × Obj)} {so far : Int} {k : Nat} {l : Str}
variable (KX : (Mine.hd.heap_1 w.params).In h₀) (T : Top viewQ (looseW viewQ []) mean mg mb h₀) (B : Below callerA h₀ [] h₀)
  (F : Fr h₀ L s.heap m) (N : News h₀ L s.heap nx) (I : Inv w L Y σ nx) (lf : LF Y m) (O : Own Y own nx)
include KX T B F N I lf O
theorem g_head {number : Int} {tn : Tok} (hnum : m (Str.ofString "number") = some (.int number tn))
    (hk : ∀ h' tk m' Y' nx' so far k l, k < 3 → isLock l → 0 ≤ so → 0 ≤ far → Fr h₀ L h' m' → News h₀ L h' nx' → Inv w L Y' { σ with due := [] } nx' → LF Y' m' → HF Y' m' so far k l → Own Y' own nx' → Q .next { s with heap := h', toks := tk }) :
    wpAny (model prg w) (lawA L fa cd) (execs headS (lawEnv L fa cd)) Q E s := by
  obtain ⟨o, mo, n, t0, t1, t2, rfl⟩ := I.has .nm trivial
  refine t_head KX T B F hnum lf.nm (news_sub (l' := (Y .nm, listOf [Value.str (nmS 0) t0, .str (nmS 1) t1, .str (nmS 2) t2].toArray n) :: nx) N (List.forall_mem_cons.mpr ⟨mo, fun _ h => h⟩)) ?_
  intro h' tk m' so far k l ts tw tl tf tn' du c hk3 hl hso hfar F' N' hfr hz a1 a2 a3 a4 a5 a6
  have hfresh : ∀ s, s.ok → du ≠ Y s := fun s hs e => by
    obtain ⟨o, ho, _⟩ := I.has s hs
    exact hfr _ (.tail _ ho) e.symm
  have I' : Inv w L (upY Y .du du) { σ with due := [] } ((du, listOf #[] c) :: (Y .nm, listOf [Value.str (nmS 0) t0, .str (nmS 1) t1, .str (nmS 2) t2].toArray n) :: nx) := by
    refine I.renew (.inl rfl) hfresh (listOf #[] c) (.head _) ⟨[], c, rfl, .nil⟩ (fun p hp => .tail _ (.tail _ hp)) ?_
    intro s hs hs'
    cases s <;> simp_all [SameAt]
  have lf' : LF (upY Y .du du) m' := by
    have := lf.keep headN hz (by decide)
    exact ⟨this.ml, this.tl, this.nm, this.dn, this.rd, this.se, this.lg⟩
  refine hk h' tk m' (upY Y .du du) _ so far k l hk3 hl hso hfar F' N' I' lf' ⟨⟨_, a1⟩, ⟨_, a2⟩, ⟨_, a3⟩, ⟨_, a4⟩, ⟨_, a5⟩, a6⟩ ?_
  intro p hp
  obtain ⟨h1, h2⟩ := O p hp
  refine ⟨.tail _ (.tail _ h1), fun s hs e => ?_⟩
  by_cases q : s = .du
  · subst q
    rw [upY_self] at e
    exact hfr _ (.tail _ h1) e
  · rw [upY_ne q] at e; exact h2 s hs e
theorem g_now (P : Pre σ) (H : HF Y m 0 far k l) (hfar : 0 ≤ far)
    (hk : ∀ h' tk m' σ' nx', (∀ z, stay.contains z = false → m' z = m z) → Fr h₀ L h' m' → News h₀ L h' nx' → Inv w L Y σ' nx' → Mid σ σ' k → Own Y own nx' → Q .next { s with heap := h', toks := tk }) :
    wpAny (model prg w) (lawA L fa cd) (exec ifS (lawEnv L fa cd)) Q E s := by
  obtain ⟨ts, hs1⟩ := H.sort
  obtain ⟨tf, hs2⟩ := H.far
  obtain ⟨_, m1, tg, ag, rfl⟩ := I.has .gd trivial
  obtain ⟨_, m2, rfl⟩ := I.has .g trivial
  obtain ⟨oa, m3, ta, hoa⟩ := I.has .ca trivial
  obtain ⟨og, m4, hog⟩ := I.has .cg trivial
  have hSok : ∀ s ∈ [SK.gd, .g, .ca, .cg], s.ok := by simp [SK.ok]
  have hT := tup_offS N I hSok
  rw [I.ca] at m3
  rw [I.cg] at m4
  refine t_now KX T B F hs1 hs2 P.auto hfar (rest := offS Y [.gd, .g, .ca, .cg] nx)
    (news_sub N (List.forall_mem_cons.mpr ⟨m1, List.forall_mem_cons.mpr ⟨m2, List.forall_mem_cons.mpr ⟨m3, List.forall_mem_cons.mpr ⟨m4, fun p hp => (mem_offS.mp hp).1⟩⟩⟩⟩)) hoa hog (offS_own (by simp)) ?_
  intro h' tk now' tg' hnow F' N'
  have hT' : TupSub nx ((Y .gd, gD w tg' ag now') :: (Y .g, instObj 220 (Y .gd)) :: (L + 1, oa) :: (L + 1 + 1, og) :: offS Y [.gd, .g, .ca, .cg] nx) := hT.trans (TupSub.of_sub fun p hp => by k_ownIn)
  have I' : Inv w L Y { σ with now := now' } ((Y .gd, gD w tg' ag now') :: (Y .g, instObj 220 (Y .gd)) :: (L + 1, oa) :: (L + 1 + 1, og) :: offS Y [.gd, .g, .ca, .cg] nx) := by
    refine I.next [.gd, .g, .ca, .cg] hSok ?_ (fun p hp => by k_ownIn) hT' ?_
    · intro s hs
      simp only [List.mem_cons, List.not_mem_nil, or_false] at hs
      rcases hs with rfl | rfl | rfl | rfl
      · exact ⟨_, by k_mem, tg', ag, rfl⟩
      · exact ⟨_, by k_mem, rfl⟩
      · rw [I.ca]; exact ⟨_, by k_mem, ta, hoa⟩
      · rw [I.cg]; exact ⟨_, by k_mem, hog⟩
    · intro s hs _
      cases s <;> simp_all [SameAt]
  refine hk h' tk m _ _ (fun _ _ => rfl) F' N' I' ?_ ?_
  · exact ⟨rfl, hnow, rfl, rfl, fun k' _ => by simp [P.due], P.tab, by simp [P.due], by simp [P.due]⟩
  · intro p hp
    obtain ⟨h1, h2⟩ := O p hp
    refine ⟨?_, h2⟩
    have : p ∈ offS Y [.gd, .g, .ca, .cg] nx := mem_offS.mpr ⟨h1, fun s hs => h2 s (hSok s hs)⟩
    k_ownIn
end
end Mine
namespace Mine
theorem refs_at {Y : SK → Addr} {c : Nat → SK} {k : Nat} (hk : k < 3) : [Value.ref (Y (c 0)), .ref (Y (c 1)), .ref (Y (c 2))][k]? = some (.ref (Y (c k))) := fam (f := fun k => Value.ref (Y (c k))) hk
theorem ints_at {f : Nat → Int} {t0 t1 t2 : Tok} {k : Nat} (hk : k < 3) : ∃ t, [Value.int (f 0) t0, .int (f 1) t1, .int (f 2) t2][k]? = some (.int (f k) t) := by
  rcases k with _ | _ | _ | k
  · exact ⟨_, rfl⟩
  · exact ⟨_, rfl⟩
  · exact ⟨_, rfl⟩
  · omega
theorem ints_are {a b c : Int} {t0 t1 t2 : Tok} : IntsAre [Value.int a t0, .int b t1, .int c t2] [a, b, c] := .cons _ _ (.cons _ _ (.cons _ _ .nil))
theorem ints_set {f : Nat → Int} {t0 t1 t2 u : Tok} {k : Nat} {v : Int} (hk : k < 3) : ∃ u0 u1 u2, [Value.int (f 0) t0, .int (f 1) t1, .int (f 2) t2].set k (.int v u) = [Value.int (updN f k v 0) u0, .int (updN f k v 1) u1, .int (updN f k v 2) u2] := by
  rcases k with _ | _ | _ | k
  · exact ⟨u, t1, t2, by simp [updN]⟩
  · exact ⟨t0, u, t2, by simp [updN]⟩
  · exact ⟨t0, t1, u, by simp [updN]⟩
  · omega
theorem deeds_len {nx : List (Addr × Obj)} {vs : List Value} {ds : List Deed} (h : DeedsAre nx vs ds) {n : Nat} (hn : ds.length ≤ n) : vs.length ≤ n := by rw [h.length]; exact hn
theorem deeds_nil {nx : List (Addr × Obj)} {vs : List Value} {ds : List Deed} (h : DeedsAre nx vs ds) (e : ds = []) : vs = [] := by
  subst e
  cases h; rfl
section
variable {w : World} {h₀ : Heap} {L fa : Addr} {cd : Value} {mg mb : Str → Option Value} {mean : ExcName → Option Value} {E : Value → Shared → Prop} {Q : Flow → Shared → Prop} {s : Shared} {m : Str → Option Value}
  {Y : SK → Addr} {σ : St} {nx own : List (Addr × Obj)} {so far : Int} {k : Nat} {l : Str}
variable (KX : (Mine.hd.heap_1 w.params).In h₀) (T : Top viewQ (looseW viewQ []) mean mg mb h₀) (B : Below callerA h₀ [] h₀)
  (F : Fr h₀ L s.heap m) (N : News h₀ L s.heap nx) (I : Inv w L Y σ nx) (lf : LF Y m) (O : Own Y own nx)
include KX T B F N I lf O
theorem g_try (hk3 : k < 3) (hl : isLock l) (P : Pre σ) (H : HF Y m 1 far k l)
    (hk : ∀ h' tk m' σ' nx', (∀ z, stay.contains z = false → m' z = m z) → Fr h₀ L h' m' → News h₀ L h' nx' → Inv w L Y σ' nx' → Mid σ σ' k → Own Y own nx' → Q .next { s with heap := h', toks := tk }) :
    wpAny (model prg w) (lawA L fa cd) (exec ifS (lawEnv L fa cd)) Q E s := by
  obtain ⟨ts, hs1⟩ := H.sort
  obtain ⟨tw, hs2⟩ := H.who
  obtain ⟨tl, hs3⟩ := H.lock
  obtain ⟨tna, hs4⟩ := H.name
  obtain ⟨_, m1, rfl⟩ := I.has (.mg k) hk3
  obtain ⟨_, m2, t, rfl⟩ := I.has (.md k) hk3
  obtain ⟨_, m3, rfl⟩ := I.has .g trivial
  obtain ⟨_, m4, tg, ag, rfl⟩ := I.has .gd trivial
  obtain ⟨_, m5, vs, n, rfl, hvs⟩ := I.has (.sn k) hk3
  obtain ⟨_, m6, nml, rfl⟩ := I.has .ml trivial
  obtain ⟨_, m7, dv, cdu, rfl, hdv⟩ := I.has .du trivial
  obtain ⟨og, m8, hog⟩ := I.has .cg trivial
  obtain rfl := deeds_nil hdv P.due
  have hSok : ∀ s ∈ [SK.mg k, .md k, .g, .gd, .sn k, .ml, .du, .cg], s.ok := by simp [SK.ok, hk3]
  have hT := tup_offS N I hSok
  rw [I.cg] at m8
  refine t_try KX T B F hk3 hs1 hs2 hs3 hs4 H.due lf.ml (refs_at (c := .mg) hk3) (rest := offS Y [SK.mg k, .md k, .g, .gd, .sn k, .ml, .du, .cg] nx)
    (news_sub N (List.forall_mem_cons.mpr ⟨m1, List.forall_mem_cons.mpr ⟨m2, List.forall_mem_cons.mpr ⟨m3, List.forall_mem_cons.mpr ⟨m4, List.forall_mem_cons.mpr ⟨m5, List.forall_mem_cons.mpr ⟨m6, List.forall_mem_cons.mpr ⟨m7, List.forall_mem_cons.mpr ⟨m8, fun p hp => (mem_offS.mp hp).1⟩⟩⟩⟩⟩⟩⟩⟩)) hog
    (offS_own (by simp)) (offS_own (by simp)) (I.ne trivial hk3 (by simp)) (I.ne trivial hk3 (by simp)) (I.ne trivial trivial (by simp)) (deeds_len hvs (Nat.le_trans (P.sent k hk3) (by omega))) ?_
  intro h' tk a k1 n' d k2 n2 x x' nt l2 nt2 nwt nwt2 F' N'
  have hT' : TupSub nx _ := hT.trans (TupSub.of_sub (nx' := (d, tupOf [.str (Str.ofString "acquire") x', .str l tl, .str (nmS k) nt, .int σ.now nwt2] k2) :: (a, tupOf [.str (Str.ofString "acquire") x, .str l l2, .str (nmS k) nt2, .int σ.now nwt] k1) :: (Y (.mg k), instObj 143 (Y (.md k))) :: (Y (.md k), mdD w t (Y (.im k)) (nmS k) σ.auto (Y .g) (σ.last k) (Y (.sn k))) :: (Y .g, instObj 220 (Y .gd)) :: (Y .gd, gD w tg ag σ.now) :: (Y (.sn k), listOf (vs.toArray.push (Value.ref a)) n') :: (Y .ml, listOf [Value.ref (Y (.mg 0)), .ref (Y (.mg 1)), .ref (Y (.mg 2))].toArray nml) :: (Y .du, listOf #[Value.ref d] n2) :: (L + 1 + 1, og) :: offS Y [SK.mg k, .md k, .g, .gd, .sn k, .ml, .du, .cg] nx) fun p hp => by k_ownIn)
  refine hk h' tk m { σ with sent := updN σ.sent k (σ.sent k ++ [.acq l (nmS k) σ.now]), due := [.acq l (nmS k) σ.now] } _ (fun _ _ => rfl) F' N' ?_ ?_ ?_
  · refine I.next [SK.mg k, .md k, .g, .gd, .sn k, .ml, .du, .cg] hSok ?_ (fun p hp => by k_ownIn) hT' ?_
    · intro s hs
      simp only [List.mem_cons, List.not_mem_nil, or_false] at hs
      rcases hs with rfl | rfl | rfl | rfl | rfl | rfl | rfl | rfl
      · exact ⟨_, by k_mem, rfl⟩
      · exact ⟨_, by k_mem, t, rfl⟩
      · exact ⟨_, by k_mem, rfl⟩
      · exact ⟨_, by k_mem, tg, ag, rfl⟩
      · refine ⟨_, by k_mem, vs ++ [Value.ref a], n', by rw [List.push_toArray], ?_⟩
        simp only [updN_self]
        exact (hvs.mono hT').append (.cons (deedAcq (by k_mem)) .nil)
      · exact ⟨_, by k_mem, nml, rfl⟩
      · exact ⟨_, by k_mem, [Value.ref d], n2, rfl, .cons (deedAcq (by k_mem)) .nil⟩
      · rw [I.cg]; exact ⟨_, by k_mem, hog⟩
    · intro s hs hok
      cases s <;> simp_all [SameAt, updN]
  · refine ⟨rfl, Int.le_refl _, rfl, rfl, fun k' _ => ?_, P.tab, ?_, by simp⟩
    · by_cases e : k' = k
      · subst e; simp [updN]
      · simp [updN, e]
    · intro d hd
      rw [List.mem_singleton.mp hd]
      exact ⟨⟨hl, k, rfl⟩, fun t ht => (Option.some.inj ht).symm⟩
  · intro p hp
    obtain ⟨h1, h2⟩ := O p hp
    refine ⟨?_, h2⟩
    have : p ∈ offS Y [SK.mg k, .md k, .g, .gd, .sn k, .ml, .du, .cg] nx := mem_offS.mpr ⟨h1, fun s hs => h2 s (hSok s hs)⟩
    k_ownIn
theorem g_rel (hk3 : k < 3) (hl : isLock l) (P : Pre σ) (H : HF Y m 2 far k l)
    (hk : ∀ h' tk m' σ' nx', (∀ z, stay.contains z = false → m' z = m z) → Fr h₀ L h' m' → News h₀ L h' nx' → Inv w L Y σ' nx' → Mid σ σ' k → Own Y own nx' → Q .next { s with heap := h', toks := tk }) :
    wpAny (model prg w) (lawA L fa cd) (exec ifS (lawEnv L fa cd)) Q E s := by
  obtain ⟨ts, hs1⟩ := H.sort
  obtain ⟨tw, hs2⟩ := H.who
  obtain ⟨tl, hs3⟩ := H.lock
  obtain ⟨tna, hs4⟩ := H.name
  obtain ⟨_, m1, rfl⟩ := I.has (.mg k) hk3
  obtain ⟨_, m2, t, rfl⟩ := I.has (.md k) hk3
  obtain ⟨_, m5, vs, n, rfl, hvs⟩ := I.has (.sn k) hk3
  obtain ⟨_, m6, nml, rfl⟩ := I.has .ml trivial
  obtain ⟨_, m7, dv, cdu, rfl, hdv⟩ := I.has .du trivial
  obtain rfl := deeds_nil hdv P.due
  have hSok : ∀ s ∈ [SK.mg k, .md k, .sn k, .ml, .du], s.ok := by simp [SK.ok, hk3]
  have hT := tup_offS N I hSok
  refine t_rel KX T B F hk3 hs1 hs2 hs3 hs4 H.due lf.ml (refs_at (c := .mg) hk3) (rest := offS Y [SK.mg k, .md k, .sn k, .ml, .du] nx)
    (news_sub N (List.forall_mem_cons.mpr ⟨m1, List.forall_mem_cons.mpr ⟨m2, List.forall_mem_cons.mpr ⟨m5, List.forall_mem_cons.mpr ⟨m6, List.forall_mem_cons.mpr ⟨m7, fun p hp => (mem_offS.mp hp).1⟩⟩⟩⟩⟩))
    (offS_own (by simp)) (offS_own (by simp)) (I.ne trivial hk3 (by simp)) (I.ne trivial hk3 (by simp)) (I.ne trivial trivial (by simp)) (deeds_len hvs (Nat.le_trans (P.sent k hk3) (by omega))) ?_
  intro h' tk a k1 n' d k2 n2 x x' nt l2 nt2 F' N'
  have hT' : TupSub nx _ := hT.trans (TupSub.of_sub (nx' := (d, tupOf [.str (Str.ofString "release") x', .str l tl, .str (nmS k) nt] k2) :: (a, tupOf [.str (Str.ofString "release") x, .str l l2, .str (nmS k) nt2] k1) :: (Y (.mg k), instObj 143 (Y (.md k))) :: (Y (.md k), mdD w t (Y (.im k)) (nmS k) σ.auto (Y .g) (σ.last k) (Y (.sn k))) :: (Y (.sn k), listOf (vs.toArray.push (Value.ref a)) n') :: (Y .ml, listOf [Value.ref (Y (.mg 0)), .ref (Y (.mg 1)), .ref (Y (.mg 2))].toArray nml) :: (Y .du, listOf #[Value.ref d] n2) :: offS Y [SK.mg k, .md k, .sn k, .ml, .du] nx) fun p hp => by k_ownIn)
  refine hk h' tk m { σ with sent := updN σ.sent k (σ.sent k ++ [.rel l (nmS k)]), due := [.rel l (nmS k)] } _ (fun _ _ => rfl) F' N' ?_ ?_ ?_
  · refine I.next [SK.mg k, .md k, .sn k, .ml, .du] hSok ?_ (fun p hp => by k_ownIn) hT' ?_
    · intro s hs
      simp only [List.mem_cons, List.not_mem_nil, or_false] at hs
      rcases hs with rfl | rfl | rfl | rfl | rfl
      · exact ⟨_, by k_mem, rfl⟩
      · exact ⟨_, by k_mem, t, rfl⟩
      · refine ⟨_, by k_mem, vs ++ [Value.ref a], n', by rw [List.push_toArray], ?_⟩
        simp only [updN_self]
        exact (hvs.mono hT').append (.cons (deedRel (by k_mem)) .nil)
      · exact ⟨_, by k_mem, nml, rfl⟩
      · exact ⟨_, by k_mem, [Value.ref d], n2, rfl, .cons (deedRel (by k_mem)) .nil⟩
    · intro s hs hok
      cases s <;> simp_all [SameAt, updN]
  · refine ⟨rfl, Int.le_refl _, rfl, rfl, fun k' _ => ?_, P.tab, ?_, by simp⟩
    · by_cases e : k' = k
      · subst e; simp [updN]
      · simp [updN, e]
    · intro d hd
      rw [List.mem_singleton.mp hd]
      exact ⟨⟨hl, k, rfl⟩, fun t ht => (nomatch ht)⟩
  · intro p hp
    obtain ⟨h1, h2⟩ := O p hp
    refine ⟨?_, h2⟩
    have : p ∈ offS Y [SK.mg k, .md k, .sn k, .ml, .du] nx := mem_offS.mpr ⟨h1, fun s hs => h2 s (hSok s hs)⟩
    k_ownIn
theorem g_auto (hk3 : k < 3) (P : Pre σ) (H : HF Y m 3 far k l)
    (hk : ∀ h' tk m' σ' nx', (∀ z, stay.contains z = false → m' z = m z) → Fr h₀ L h' m' → News h₀ L h' nx' → Inv w L Y σ' nx' → Mid σ σ' k → Own Y own nx' → Q .next { s with heap := h', toks := tk }) :
    wpAny (model prg w) (lawA L fa cd) (exec ifS (lawEnv L fa cd)) Q E s := by
  obtain ⟨ts, hs1⟩ := H.sort
  obtain ⟨tw, hs2⟩ := H.who
  obtain ⟨tf, hs3⟩ := H.far
  obtain ⟨tna, hs4⟩ := H.name
  obtain ⟨_, m1, rfl⟩ := I.has (.mg k) hk3
  obtain ⟨_, m2, t, rfl⟩ := I.has (.md k) hk3
  obtain ⟨_, m3, rfl⟩ := I.has .g trivial
  obtain ⟨_, m4, tg, ag, rfl⟩ := I.has .gd trivial
  obtain ⟨_, m5, vs, n, rfl, hvs⟩ := I.has (.sn k) hk3
  obtain ⟨_, m6, nml, rfl⟩ := I.has .ml trivial
  obtain ⟨_, m7, dv, cdu, rfl, hdv⟩ := I.has .du trivial
  obtain ⟨og, m8, hog⟩ := I.has .cg trivial
  obtain ⟨oa, m9, ta, hoa⟩ := I.has .ca trivial
  obtain ⟨_, m10, nr, r0, r1, r2, rfl⟩ := I.has .rd trivial
  obtain ⟨tr, hr⟩ := ints_at (f := σ.last) (t0 := r0) (t1 := r1) (t2 := r2) hk3
  obtain rfl := deeds_nil hdv P.due
  have hSok : ∀ s ∈ [SK.mg k, .md k, .g, .gd, .sn k, .ml, .du, .rd, .ca, .cg], s.ok := by simp [SK.ok, hk3]
  have hT := tup_offS N I hSok
  rw [I.cg] at m8
  rw [I.ca] at m9
  refine t_auto KX T B F hk3 hs1 hs2 hs3 hs4 H.due lf.ml lf.rd (refs_at (c := .mg) hk3) hr ints_are rfl (rest := offS Y [SK.mg k, .md k, .g, .gd, .sn k, .ml, .du, .rd, .ca, .cg] nx)
    (news_sub N (List.forall_mem_cons.mpr ⟨m1, List.forall_mem_cons.mpr ⟨m2, List.forall_mem_cons.mpr ⟨m3, List.forall_mem_cons.mpr ⟨m4, List.forall_mem_cons.mpr ⟨m5, List.forall_mem_cons.mpr ⟨m6, List.forall_mem_cons.mpr ⟨m7, List.forall_mem_cons.mpr ⟨m10, List.forall_mem_cons.mpr ⟨m9, List.forall_mem_cons.mpr ⟨m8, fun p hp => (mem_offS.mp hp).1⟩⟩⟩⟩⟩⟩⟩⟩⟩⟩)) hoa hog
    (offS_own (by simp)) (offS_own (by simp)) (offS_own (by simp)) (offS_own (by simp)) (I.ne hk3 trivial (by simp)) (I.ne trivial hk3 (by simp)) (I.ne trivial hk3 (by simp)) (I.ne trivial trivial (by simp)) (I.ne trivial hk3 (by simp)) (I.ne trivial trivial (by simp)) (I.ne trivial trivial (by simp)) (deeds_len hvs (Nat.le_trans (P.sent k hk3) (by omega))) ?_ ?_
  · intro h' tk m' hz F' N'
    have hT' : TupSub nx _ := hT.trans (TupSub.of_sub (nx' := (Y (.mg k), instObj 143 (Y (.md k))) :: (Y (.md k), mdD w t (Y (.im k)) (nmS k) σ.auto (Y .g) (σ.last k) (Y (.sn k))) :: (Y .g, instObj 220 (Y .gd)) :: (Y .gd, gD w tg ag σ.now) :: (Y (.sn k), listOf vs.toArray n) :: (Y .ml, listOf [Value.ref (Y (.mg 0)), .ref (Y (.mg 1)), .ref (Y (.mg 2))].toArray nml) :: (Y .du, listOf #[] cdu) :: (Y .rd, listOf [Value.int (σ.last 0) r0, .int (σ.last 1) r1, .int (σ.last 2) r2].toArray nr) :: (L + 1, oa) :: (L + 1 + 1, og) :: offS Y [SK.mg k, .md k, .g, .gd, .sn k, .ml, .du, .rd, .ca, .cg] nx) fun p hp => by k_ownIn)
    refine hk h' tk m' σ _ (fun z hz' => hz z (ne_of_notin hz' (by decide))) F' N' ?_ ?_ ?_
    · refine I.next [SK.mg k, .md k, .g, .gd, .sn k, .ml, .du, .rd, .ca, .cg] hSok ?_ (fun p hp => by k_ownIn) hT' (fun s _ _ => by cases s <;> simp [SameAt])
      intro s hs
      simp only [List.mem_cons, List.not_mem_nil, or_false] at hs
      rcases hs with rfl | rfl | rfl | rfl | rfl | rfl | rfl | rfl | rfl | rfl
      · exact ⟨_, by k_mem, rfl⟩
      · exact ⟨_, by k_mem, t, rfl⟩
      · exact ⟨_, by k_mem, rfl⟩
      · exact ⟨_, by k_mem, tg, ag, rfl⟩
      · exact ⟨_, by k_mem, vs, n, rfl, hvs.mono hT'⟩
      · exact ⟨_, by k_mem, nml, rfl⟩
      · exact ⟨_, by k_mem, [], cdu, rfl, by rw [P.due]; exact .nil⟩
      · exact ⟨_, by k_mem, nr, r0, r1, r2, rfl⟩
      · rw [I.ca]; exact ⟨_, by k_mem, ta, hoa⟩
      · rw [I.cg]; exact ⟨_, by k_mem, hog⟩
    · exact ⟨rfl, Int.le_refl _, rfl, rfl, fun k' _ => by simp [P.due], P.tab, by simp [P.due], by simp [P.due]⟩
    · intro p hp
      obtain ⟨h1, h2⟩ := O p hp
      refine ⟨?_, h2⟩
      have : p ∈ offS Y [SK.mg k, .md k, .g, .gd, .sn k, .ml, .du, .rd, .ca, .cg] nx := mem_offS.mpr ⟨h1, fun s hs => h2 s (hSok s hs)⟩
      k_ownIn
  intro h' tk m' a k1 n' d k2 n2 x x' nt t' nwt nwt2 ru hz F' N'
  obtain ⟨u0, u1, u2, hset⟩ := ints_set (f := σ.last) (t0 := r0) (t1 := r1) (t2 := r2) (u := ru) (v := σ.now) hk3
  rw [hset] at N'
  have hT' : TupSub nx _ := hT.trans (TupSub.of_sub (nx' := (d, tupOf [.str (Str.ofString "prolongate") x', .str (nmS k) nt, .int σ.now nwt2] k2) :: (a, tupOf [.str (Str.ofString "prolongate") x, .str (nmS k) (t' 2), .int σ.now nwt] k1) :: (Y (.mg k), instObj 143 (Y (.md k))) :: (Y (.md k), mdD w t' (Y (.im k)) (nmS k) σ.auto (Y .g) σ.now (Y (.sn k))) :: (Y .g, instObj 220 (Y .gd)) :: (Y .gd, gD w tg ag σ.now) :: (Y (.sn k), listOf (vs.toArray.push (Value.ref a)) n') :: (Y .ml, listOf [Value.ref (Y (.mg 0)), .ref (Y (.mg 1)), .ref (Y (.mg 2))].toArray nml) :: (Y .du, listOf #[Value.ref d] n2) :: (Y .rd, listOf [Value.int (updN σ.last k σ.now 0) u0, .int (updN σ.last k σ.now 1) u1, .int (updN σ.last k σ.now 2) u2].toArray nr) :: (L + 1, oa) :: (L + 1 + 1, og) :: offS Y [SK.mg k, .md k, .g, .gd, .sn k, .ml, .du, .rd, .ca, .cg] nx) fun p hp => by k_ownIn)
  refine hk h' tk m' { σ with last := updN σ.last k σ.now, sent := updN σ.sent k (σ.sent k ++ [.pro (nmS k) σ.now]), due := [.pro (nmS k) σ.now] } _ (fun z hz' => hz z (ne_of_notin hz' (by decide))) F' N' ?_ ?_ ?_
  · refine I.next [SK.mg k, .md k, .g, .gd, .sn k, .ml, .du, .rd, .ca, .cg] hSok ?_ (fun p hp => by k_ownIn) hT' ?_
    · intro s hs
      simp only [List.mem_cons, List.not_mem_nil, or_false] at hs
      rcases hs with rfl | rfl | rfl | rfl | rfl | rfl | rfl | rfl | rfl | rfl
      · exact ⟨_, by k_mem, rfl⟩
      · exact ⟨_, by k_mem, t', by simp only [updN_self]⟩
      · exact ⟨_, by k_mem, rfl⟩
      · exact ⟨_, by k_mem, tg, ag, rfl⟩
      · refine ⟨_, by k_mem, vs ++ [Value.ref a], n', by rw [List.push_toArray], ?_⟩
        simp only [updN_self]
        exact (hvs.mono hT').append (.cons (deedPro (by k_mem)) .nil)
      · exact ⟨_, by k_mem, nml, rfl⟩
      · exact ⟨_, by k_mem, [Value.ref d], n2, rfl, .cons (deedPro (by k_mem)) .nil⟩
      · exact ⟨_, by k_mem, nr, u0, u1, u2, rfl⟩
      · rw [I.ca]; exact ⟨_, by k_mem, ta, hoa⟩
      · rw [I.cg]; exact ⟨_, by k_mem, hog⟩
    · intro s hs hok
      cases s <;> simp_all [SameAt, updN]
  · refine ⟨rfl, Int.le_refl _, rfl, rfl, fun k' _ => ?_, P.tab, ?_, by simp⟩
    · by_cases e : k' = k
      · subst e; simp [updN]
      · simp [updN, e]
    · intro d hd
      rw [List.mem_singleton.mp hd]
      exact ⟨⟨k, rfl⟩, fun t ht => (Option.some.inj ht).symm⟩
  · intro p hp
    obtain ⟨h1, h2⟩ := O p hp
    refine ⟨?_, h2⟩
    have : p ∈ offS Y [SK.mg k, .md k, .g, .gd, .sn k, .ml, .du, .rd, .ca, .cg] nx := mem_offS.mpr ⟨h1, fun s hs => h2 s (hSok s hs)⟩
    k_ownIn
end
end Mine
namespace Mine
def offA (own nx : List (Addr × Obj)) : List (Addr × Obj) := nx.filter fun p => !(own.any fun q => Nat.beq q.1 p.1)
theorem mem_offA {own nx : List (Addr × Obj)} {p} : p ∈ offA own nx ↔ p ∈ nx ∧ ∀ q ∈ own, p.1 ≠ q.1 := by
  unfold offA
  rw [List.mem_filter]
  refine and_congr_right fun _ => ?_
  simp only [Bool.not_eq_true', List.any_eq_false]
  constructor
  · intro h q hq e
    exact h q hq (by rw [e]; exact Nat.beq_refl _)
  · intro h q hq e
    exact h q hq (Nat.eq_of_beq_eq_true e).symm
theorem sameAt_refl {σ : St} {s : SK} : SameAt σ σ s := by cases s <;> simp [SameAt]
section
variable {w : World} {h₀ h : Heap} {L : Addr} {Y : SK → Addr} {σ : St} {nx own own9 : List (Addr × Obj)}
theorem tup_offA (N : News h₀ L h nx) (hnt : NoTup own9) (hin : ∀ p ∈ own9, p ∈ nx) : TupSub nx (offA own9 nx) := by
  intro a vs n hm
  refine mem_offA.mpr ⟨hm, fun q hq e => ?_⟩
  have h1 := (N _ hm).1
  have h2 := (N _ (hin q hq)).1
  rw [← e, h1] at h2
  exact hnt q hq (by rw [← Option.some.inj h2])
theorem Inv.sub {nx'} (I : Inv w L Y σ nx) (hs : ∀ p ∈ nx, p ∈ nx') : Inv w L Y σ nx' where
  inj := I.inj
  ca := I.ca
  cg := I.cg
  has := fun s hk => by
    obtain ⟨o, ho, hsl⟩ := I.has s hk
    exact ⟨o, hs _ ho, hsl.next sameAt_refl (TupSub.of_sub hs)⟩
theorem Inv.less (N : News h₀ L h nx) (I : Inv w L Y σ nx) (hnt : NoTup own9) (O : Own Y own9 nx) : Inv w L Y σ (offA own9 nx) where
  inj := I.inj
  ca := I.ca
  cg := I.cg
  has := fun s hk => by
    obtain ⟨o, ho, hsl⟩ := I.has s hk
    exact ⟨o, mem_offA.mpr ⟨ho, fun q hq e => (O q hq).2 s hk e.symm⟩, hsl.next sameAt_refl (tup_offA N hnt fun p hp => (O p hp).1)⟩
theorem own_in (I : Inv w L Y σ nx) (O : Own Y own nx) (hoff : OwnOff own9 (nx.map (·.1))) : Own Y (own ++ own9) (nx ++ own9) := by
  intro p hp
  rcases List.mem_append.mp hp with hp | hp
  · exact ⟨List.mem_append_left _ (O p hp).1, (O p hp).2⟩
  · refine ⟨List.mem_append_right _ hp, fun s hs => ?_⟩
    obtain ⟨o, ho, _⟩ := I.has s hs
    exact hoff p hp _ (List.mem_map.mpr ⟨_, ho, rfl⟩)
theorem own_sep (O : Own Y own nx) (hoff : OwnOff own9 (nx.map (·.1))) : ∀ p ∈ own, ∀ q ∈ own9, p.1 ≠ q.1 := by
  intro p hp q hq e
  exact hoff q hq p.1 (List.mem_map.mpr ⟨p, (O p hp).1, rfl⟩) e.symm
theorem turn_out {m' : Str → Option Value} {J : (Str → Option Value) → List (Addr × Obj) → Prop} {s₁ : Shared} {tk : Nat} (F : Fr h₀ L h m') (N : News h₀ L h nx) (I : Inv w L Y σ nx) (O : Own Y (own ++ own9) nx) (hnt : NoTup own9) (hsep : ∀ p ∈ own, ∀ q ∈ own9, p.1 ≠ q.1)
    (hj : Inv w L Y σ (offA own9 nx) → Own Y own (offA own9 nx) → TupSub nx (offA own9 nx) → J m' (offA own9 nx)) : InvEndG h₀ L J own9 s₁ { s₁ with heap := h, toks := tk } := by
  have O9 : Own Y own9 nx := fun p hp => O p (List.mem_append_right _ hp)
  refine InvEndG.intro F N (hj (I.less N hnt O9) (fun p hp => ⟨mem_offA.mpr ⟨(O p (List.mem_append_left _ hp)).1, hsep p hp⟩, (O p (List.mem_append_left _ hp)).2⟩) (tup_offA N hnt fun p hp => (O9 p hp).1)) ?_ (fun p hp => (mem_offA.mp hp).1) (fun p hp => (O9 p hp).1)
  intro p hp b hb e
  obtain ⟨q, hq, rfl⟩ := List.mem_map.mp hb
  exact (mem_offA.mp hq).2 p hp e.symm
theorem Inv.nodup (I : Inv w L Y σ nx) {S : List SK} (hok : ∀ s ∈ S, s.ok) (hn : S.Nodup) : (S.map Y).Nodup := by
  unfold List.Nodup at *
  rw [List.pairwise_map]
  exact hn.imp_of_mem fun ha hb h e => h (I.inj _ _ (hok _ ha) (hok _ hb) e)
theorem Inv.tup_ne (N : News h₀ L h nx) (I : Inv w L Y σ nx) {a : Addr} {vs : List Value} {n : Nat} (hm : (a, tupOf vs n) ∈ nx) {s : SK} (hs : s.ok) : a ≠ Y s := by
  intro e
  obtain ⟨o, ho, hsl⟩ := I.has s hs
  subst e
  have h1 := (N _ hm).1
  have h2 := (N _ ho).1
  rw [h1] at h2
  exact hsl.notTup (Y s) vs n (Option.some.inj h2).symm
end
theorem nats_set {f : Nat → Nat} {t0 t1 t2 u : Tok} {k : Nat} (hk : k < 3) : ∃ u0 u1 u2, [Value.int (f 0 : Nat) t0, .int (f 1 : Nat) t1, .int (f 2 : Nat) t2].set k (.int ((f k : Nat) + 1) u) = [Value.int (updN f k (f k + 1) 0 : Nat) u0, .int (updN f k (f k + 1) 1 : Nat) u1, .int (updN f k (f k + 1) 2 : Nat) u2] := by
  rcases k with _ | _ | _ | k
  · exact ⟨u, t1, t2, by simp [updN]⟩
  · exact ⟨t0, u, t2, by simp [updN]⟩
  · exact ⟨t0, t1, u, by simp [updN]⟩
  · omega
abbrev SB (k : Nat) : List SK := [.mg k, .md k, .im k, .di k, .lk k, .tb k, .g, .gd, .sn k, .ml, .tl, .dn, .du, .ca, .cg]
def bodyNext (σ : St) (k : Nat) (d : Deed) (es : List Deed) : St := { σ with tab := updN σ.tab k (d.app σ.auto (σ.tab k)), done := updN σ.done k (σ.done k + 1), sent := updN σ.sent k (σ.sent k ++ es), due := σ.due ++ es }
theorem body_next {w : World} {L : Addr} {Y : SK → Addr} {σ : St} {nx own : List (Addr × Obj)} {k : Nat} (hk3 : k < 3) (I : Inv w L Y σ nx) (O : Own Y own nx) {d : Deed} {es : List Deed} {add : List (Addr × Obj)} {t tg : Nat → Tok} {ag : Nat → Addr} {t1 t2 t3 u : Tok} {n' nml ndn ntl c' : Nat} {oa og ol ot : Obj} {ta r0 r1 r2 : Tok} {vs dv : List Value} {nx' : List (Addr × Obj)}
    (hoa : oa.data = .cell (some (.int σ.auto ta))) (hog : og.data = .cell (some (.ref (Y .g))))
    (lo1 : (Y (.lk k) == sysModules) = false) (lo2 : (Y (.tb k) == sysModules) = false) (hT : TupSub nx nx')
    (hin : ∀ p ∈ (Y (.mg k), instObj 143 (Y (.md k))) :: (Y (.md k), mdD w t (Y (.im k)) (nmS k) σ.auto (Y .g) (σ.last k) (Y (.sn k))) :: (Y .g, instObj 220 (Y .gd)) :: (Y .gd, gD w tg ag σ.now) :: (Y (.sn k), listOf vs.toArray n') :: (Y .ml, listOf [Value.ref (Y (.mg 0)), .ref (Y (.mg 1)), .ref (Y (.mg 2))].toArray nml) :: (Y .dn, listOf ([Value.int (σ.done 0 : Nat) r0, .int (σ.done 1 : Nat) r1, .int (σ.done 2 : Nat) r2].set (k : Int).toNat (.int ((σ.done k : Nat) + 1) u)).toArray ndn) :: (Y .du, listOf dv.toArray c') :: (L + 1, oa) :: (L + 1 + 1, og) :: (Y (.im k), instObj 66 (Y (.di k))) :: (Y (.di k), imD w t1 t2 t3 (Y (.lk k)) σ.auto) :: (Y (.lk k), ol) :: (Y (.tb k), ot) :: (Y .tl, listOf [Value.ref (Y (.tb 0)), .ref (Y (.tb 1)), .ref (Y (.tb 2))].toArray ntl) :: (add ++ offS Y (SB k) nx), p ∈ nx')
    (hol : DictTab w (add ++ offS Y (SB k) nx) ol (d.app σ.auto (σ.tab k))) (hot : DictTab w (add ++ offS Y (SB k) nx) ot (d.app σ.auto (σ.tab k)))
    (hvs : DeedsAre nx' vs (σ.sent k ++ es)) (hdv : DeedsAre nx' dv (σ.due ++ es)) : Inv w L Y (bodyNext σ k d es) nx' ∧ Own Y own nx' := by
  have hSok : ∀ s ∈ SB k, s.ok := by simp [SK.ok, hk3]
  have hrest : ∀ p ∈ add ++ offS Y (SB k) nx, p ∈ nx' := fun p hp => hin p (by k_ownIn)
  obtain ⟨u0, u1, u2, hset⟩ := nats_set (f := σ.done) (t0 := r0) (t1 := r1) (t2 := r2) (u := u) hk3
  rw [Int.toNat_natCast, hset] at hin
  refine ⟨I.next (SB k) hSok ?_ (fun p hp => hrest p (List.mem_append_right _ hp)) hT ?_, ?_⟩
  · intro s hs
    simp only [SB, List.mem_cons, List.not_mem_nil, or_false] at hs
    rcases hs with rfl | rfl | rfl | rfl | rfl | rfl | rfl | rfl | rfl | rfl | rfl | rfl | rfl | rfl | rfl
    · exact ⟨_, hin _ (by k_mem), rfl⟩
    · exact ⟨_, hin _ (by k_mem), t, rfl⟩
    · exact ⟨_, hin _ (by k_mem), rfl⟩
    · exact ⟨_, hin _ (by k_mem), t1, t2, t3, rfl⟩
    · refine ⟨_, hin _ (by k_mem), ?_, lo1⟩
      simp only [bodyNext, updN_self]
      exact hol.mono2 (TupSub.of_sub hrest)
    · refine ⟨_, hin _ (by k_mem), ?_, lo2⟩
      simp only [bodyNext, updN_self]
      exact hot.mono2 (TupSub.of_sub hrest)
    · exact ⟨_, hin _ (by k_mem), rfl⟩
    · exact ⟨_, hin _ (by k_mem), tg, ag, rfl⟩
    · refine ⟨_, hin _ (by k_mem), vs, n', rfl, ?_⟩
      simp only [bodyNext, updN_self]
      exact hvs
    · exact ⟨_, hin _ (by k_mem), nml, rfl⟩
    · exact ⟨_, hin _ (by k_mem), ntl, rfl⟩
    · exact ⟨_, hin _ (by k_mem), ndn, u0, u1, u2, rfl⟩
    · exact ⟨_, hin _ (by k_mem), dv, c', rfl, hdv⟩
    · rw [I.ca]; exact ⟨_, hin _ (by k_mem), ta, hoa⟩
    · rw [I.cg]; exact ⟨_, hin _ (by k_mem), hog⟩
  · intro s hs hok
    cases s <;> simp_all [SameAt, updN, bodyNext]
  · intro p hp
    obtain ⟨h1, h2⟩ := O p hp
    exact ⟨hrest p (List.mem_append_right _ (mem_offS.mpr ⟨h1, fun s hs => h2 s (hSok s hs)⟩)), h2⟩
end Mine
namespace Mine
section
variable {w : World} {h₀ : Heap} {L fa : Addr} {cd : Value} {mg mb : Str → Option Value} {mean : ExcName → Option Value} {E : Value → Shared → Prop} {Q : Flow → Shared → Prop} {s : Shared} {m : Str → Option Value}
  {Y : SK → Addr} {σ : St} {nx own : List (Addr × Obj)} {so far : Int} {k : Nat} {l : Str}
variable (KX : (Mine.hd.heap_1 w.params).In h₀) (T : Top viewQ (looseW viewQ []) mean mg mb h₀) (B : Below callerA h₀ [] h₀)
  (F : Fr h₀ L s.heap m) (N : News h₀ L s.heap nx) (I : Inv w L Y σ nx) (lf : LF Y m) (O : Own Y own nx)
include KX T B F N I lf O
theorem g_body (hk3 : k < 3) (H : HF Y m so far k l) {v : Value} {d : Deed} (hv : m (Str.ofString "deed") = some v) (hd : DeedAt nx v d) (hok : d.ok) (hl1 : (σ.sent k).length ≤ 1000) (hl2 : σ.due.length ≤ 1000)
    (hk : ∀ h' tk m' nx' es, (∀ z, List.contains [Str.ofString "told", Str.ofString "late"] z = false → m' z = m z) → (∀ d ∈ es, Deed.ok d ∧ d.time = none) → es.length ≤ 1 → Fr h₀ L h' m' → News h₀ L h' nx' → Inv w L Y (bodyNext σ k d es) nx' → Own Y own nx' → TupSub nx nx' → Q .next { s with heap := h', toks := tk }) :
    wpAny (model prg w) (lawA L fa cd) (execs dBody (lawEnv L fa cd)) Q E s := by
  obtain ⟨tw, hs2⟩ := H.who
  obtain ⟨tna, hs4⟩ := H.name
  obtain ⟨_, m1, rfl⟩ := I.has (.mg k) hk3
  obtain ⟨_, m2, t, rfl⟩ := I.has (.md k) hk3
  obtain ⟨_, m3, rfl⟩ := I.has (.im k) hk3
  obtain ⟨_, m4, t1, t2, t3, rfl⟩ := I.has (.di k) hk3
  obtain ⟨ol, m5, hol, lo1⟩ := I.has (.lk k) hk3
  obtain ⟨ot, m6, hot, lo2⟩ := I.has (.tb k) hk3
  obtain ⟨_, m7, rfl⟩ := I.has .g trivial
  obtain ⟨_, m8, tg, ag, rfl⟩ := I.has .gd trivial
  obtain ⟨_, m9, vs, n, rfl, hvs⟩ := I.has (.sn k) hk3
  obtain ⟨_, m10, nml, rfl⟩ := I.has .ml trivial
  obtain ⟨_, m11, ntl, rfl⟩ := I.has .tl trivial
  obtain ⟨_, m12, ndn, r0, r1, r2, rfl⟩ := I.has .dn trivial
  obtain ⟨_, m13, dv, cdu, rfl, hdv⟩ := I.has .du trivial
  obtain ⟨oa, m14, ta, hoa⟩ := I.has .ca trivial
  obtain ⟨og, m15, hog⟩ := I.has .cg trivial
  obtain ⟨tr, hr⟩ := ints_at (f := fun i => ((σ.done i : Nat) : Int)) (t0 := r0) (t1 := r1) (t2 := r2) hk3
  have hSok : ∀ s ∈ SB k, s.ok := by simp [SK.ok, hk3]
  have hT := tup_offS N I hSok
  have hnd0 := I.nodup hSok (by simp [SB])
  have ca := I.ca
  have cg := I.cg
  have hnd1 : ∀ {dd : Addr} {us : List Value} {n : Nat}, (dd, tupOf us n) ∈ nx → (dd :: (SB k).map Y).Nodup := fun hm => List.nodup_cons.mpr ⟨fun hh => by
    obtain ⟨s, hs, e⟩ := List.mem_map.mp hh
    exact I.tup_ne N hm (hSok s hs) e.symm, hnd0⟩
  simp only [SB, List.map_cons, List.map_nil, ca, cg] at hnd1
  rw [ca] at m14
  rw [cg] at m15
  have hlk := offS_own (Y := Y) (nx := nx) (S := SB k) (s := .lk k) (by simp)
  have htb := offS_own (Y := Y) (nx := nx) (S := SB k) (s := .tb k) (by simp)
  have hsn := offS_own (Y := Y) (nx := nx) (S := SB k) (s := .sn k) (by simp)
  have hdn := offS_own (Y := Y) (nx := nx) (S := SB k) (s := .dn) (by simp)
  have hdu := offS_own (Y := Y) (nx := nx) (S := SB k) (s := .du) (by simp)
  have hdr : ∀ {p : Addr × Obj}, p ∈ offS Y (SB k) nx → p ∈ nx := fun hp => (mem_offS.mp hp).1
  have hN : ∀ {dd : Addr} {us : List Value} {nn : Nat}, (dd, tupOf us nn) ∈ nx → News h₀ L s.heap ((dd, tupOf us nn) :: (Y (.mg k), instObj 143 (Y (.md k))) :: (Y (.md k), mdD w t (Y (.im k)) (nmS k) σ.auto (Y .g) (σ.last k) (Y (.sn k))) :: (Y (.im k), instObj 66 (Y (.di k))) :: (Y (.di k), imD w t1 t2 t3 (Y (.lk k)) σ.auto) :: (Y (.lk k), ol) :: (Y (.tb k), ot) :: (Y .g, instObj 220 (Y .gd)) :: (Y .gd, gD w tg ag σ.now) :: (Y (.sn k), listOf vs.toArray n) :: (Y .ml, listOf [Value.ref (Y (.mg 0)), .ref (Y (.mg 1)), .ref (Y (.mg 2))].toArray nml) :: (Y .tl, listOf [Value.ref (Y (.tb 0)), .ref (Y (.tb 1)), .ref (Y (.tb 2))].toArray ntl) :: (Y .dn, listOf [Value.int (σ.done 0 : Nat) r0, .int (σ.done 1 : Nat) r1, .int (σ.done 2 : Nat) r2].toArray ndn) :: (Y .du, listOf dv.toArray cdu) :: (L + 1, oa) :: (L + 1 + 1, og) :: offS Y (SB k) nx) := fun hm =>
    news_sub N (List.forall_mem_cons.mpr ⟨hm, List.forall_mem_cons.mpr ⟨m1, List.forall_mem_cons.mpr ⟨m2, List.forall_mem_cons.mpr ⟨m3, List.forall_mem_cons.mpr ⟨m4, List.forall_mem_cons.mpr ⟨m5, List.forall_mem_cons.mpr ⟨m6, List.forall_mem_cons.mpr ⟨m7, List.forall_mem_cons.mpr ⟨m8, List.forall_mem_cons.mpr ⟨m9, List.forall_mem_cons.mpr ⟨m10, List.forall_mem_cons.mpr ⟨m11, List.forall_mem_cons.mpr ⟨m12, List.forall_mem_cons.mpr ⟨m13, List.forall_mem_cons.mpr ⟨m14, List.forall_mem_cons.mpr ⟨m15, fun p hp => hdr hp⟩⟩⟩⟩⟩⟩⟩⟩⟩⟩⟩⟩⟩⟩⟩⟩)
  have hol' := hol.mono2 hT
  have hot' := hot.mono2 hT
  have hv1 := deeds_len hvs hl1
  have hv2 := deeds_len hdv hl2
  have no : ∀ d ∈ ([] : List Deed), Deed.ok d ∧ d.time = none := fun _ h => nomatch h
  have fin : ∀ {d : Deed} {es : List Deed} {h' : Heap} {NX add : List (Addr × Obj)} {u : Tok} {n' c' : Nat} {vs' dv' : List Value} {ol' ot' : Obj}, News h₀ L h' NX →
      (∀ p ∈ (Y (.mg k), instObj 143 (Y (.md k))) :: (Y (.md k), mdD w t (Y (.im k)) (nmS k) σ.auto (Y .g) (σ.last k) (Y (.sn k))) :: (Y .g, instObj 220 (Y .gd)) :: (Y .gd, gD w tg ag σ.now) :: (Y (.sn k), listOf vs'.toArray n') :: (Y .ml, listOf [Value.ref (Y (.mg 0)), .ref (Y (.mg 1)), .ref (Y (.mg 2))].toArray nml) :: (Y .dn, listOf ([Value.int (σ.done 0 : Nat) r0, .int (σ.done 1 : Nat) r1, .int (σ.done 2 : Nat) r2].set (k : Int).toNat (.int ((σ.done k : Nat) + 1) u)).toArray ndn) :: (Y .du, listOf dv'.toArray c') :: (L + 1, oa) :: (L + 1 + 1, og) :: (Y (.im k), instObj 66 (Y (.di k))) :: (Y (.di k), imD w t1 t2 t3 (Y (.lk k)) σ.auto) :: (Y (.lk k), ol') :: (Y (.tb k), ot') :: (Y .tl, listOf [Value.ref (Y (.tb 0)), .ref (Y (.tb 1)), .ref (Y (.tb 2))].toArray ntl) :: (add ++ offS Y (SB k) nx), p ∈ NX) →
      DictTab w (add ++ offS Y (SB k) nx) ol' (d.app σ.auto (σ.tab k)) → DictTab w (add ++ offS Y (SB k) nx) ot' (d.app σ.auto (σ.tab k)) → (TupSub nx NX → DeedsAre NX vs' (σ.sent k ++ es)) → (TupSub nx NX → DeedsAre NX dv' (σ.due ++ es)) →
      Inv w L Y (bodyNext σ k d es) NX ∧ Own Y own NX ∧ TupSub nx NX := by
    intro d es h' NX add u n' c' vs' dv' ol' ot' _ hin D1 D2 hs1 hs2
    have hT' : TupSub nx NX := hT.trans (TupSub.of_sub fun p hp => hin p (by have hp' := List.mem_append_right add hp; k_ownIn))
    have hb := body_next hk3 I O hoa hog lo1 lo2 hT' hin D1 D2 (hs1 hT') (hs2 hT')
    exact ⟨hb.1, hb.2, hT'⟩
  cases d with
  | acq l' c t0 =>
    obtain ⟨dd, x1, x2, x3, x4, kd, rfl, hdd⟩ := hd
    have hdo := hT _ _ _ hdd
    refine t_bodyAcq KX T B F hk3 hv hs2 lf.tl hs4 H.due lf.ml lf.dn (refs_at (c := .mg) hk3) (refs_at (c := .tb) hk3) hr ints_are rfl (rest := offS Y (SB k) nx) (hN hdd) hoa hog hol' hot' lo1 lo2 hok.1 hlk htb hsn hdn hdu (hnd1 hdd) hv1 hv2 ?_ ?_
    · intro _ h' tk m' ol' ot' add u n' c' hz ht F' D1 D2 N'
      have hf := fin (d := .acq l' c t0) (es := []) (add := add) (u := u) (n' := n') (c' := c') (vs' := vs) (dv' := dv) N' (by generalize add ++ offS Y (SB k) nx = R; kqd_sub) D1 D2 (fun hT' => by simpa using hvs.mono hT') (fun hT' => by simpa using hdv.mono hT')
      exact hk h' tk m' _ [] hz no (by simp) F' N' hf.1 hf.2.1 hf.2.2
    · intro _ _ _ h' tk m' ol' ot' add u n' c' a k1 d k2 y1 y2 y3 z1 z2 z3 hz ht F' D1 D2 N'
      rw [List.push_toArray, List.push_toArray] at N'
      have hf := fin (d := .acq l' c t0) (es := [.rel l' (nmS k)]) (add := add) (u := u) (n' := n') (c' := c') (vs' := vs ++ [Value.ref a]) (dv' := dv ++ [Value.ref d]) N' (by generalize add ++ offS Y (SB k) nx = R; kqd_sub) D1 D2 (fun hT' => (hvs.mono hT').append (.cons (deedRel (by k_mem)) .nil)) (fun hT' => (hdv.mono hT').append (.cons (deedRel (by k_mem)) .nil))
      refine hk h' tk m' _ [.rel l' (nmS k)] hz (fun d hd => ?_) (by simp) F' N' hf.1 hf.2.1 hf.2.2
      rw [List.mem_singleton.mp hd]
      exact ⟨⟨hok.1, k, rfl⟩, rfl⟩
  | rel l' c =>
    obtain ⟨dd, x1, x2, x3, kd, rfl, hdd⟩ := hd
    refine t_bodyRel KX T B F hk3 hv hs2 lf.tl hs4 H.due lf.ml lf.dn (refs_at (c := .mg) hk3) (refs_at (c := .tb) hk3) hr ints_are rfl (rest := offS Y (SB k) nx) (hN hdd) hoa hog hol' hot' lo1 lo2 hok.1 hlk htb hsn hdn hdu (hnd1 hdd) hv1 hv2 ?_
    intro h' tk m' ol' ot' add u n' c' hz ht F' D1 D2 N'
    have hf := fin (d := .rel l' c) (es := []) (add := add) (u := u) (n' := n') (c' := c') (vs' := vs) (dv' := dv) N' (by generalize add ++ offS Y (SB k) nx = R; kqd_sub) D1 D2 (fun hT' => by simpa using hvs.mono hT') (fun hT' => by simpa using hdv.mono hT')
    exact hk h' tk m' _ [] hz no (by simp) F' N' hf.1 hf.2.1 hf.2.2
  | pro c t0 =>
    obtain ⟨dd, x1, x3, x4, kd, rfl, hdd⟩ := hd
    refine t_bodyPro KX T B F hk3 hv hs2 lf.tl hs4 H.due lf.ml lf.dn (refs_at (c := .mg) hk3) (refs_at (c := .tb) hk3) hr ints_are rfl (rest := offS Y (SB k) nx) (hN hdd) hoa hog hol' hot' lo1 lo2 hlk htb hsn hdn hdu (hnd1 hdd) hv1 hv2 ?_
    intro h' tk m' ol' ot' add u n' c' hz ht F' D1 D2 N'
    have hf := fin (d := .pro c t0) (es := []) (add := add) (u := u) (n' := n') (c' := c') (vs' := vs) (dv' := dv) N' (by generalize add ++ offS Y (SB k) nx = R; kqd_sub) D1 D2 (fun hT' => by simpa using hvs.mono hT') (fun hT' => by simpa using hdv.mono hT')
    exact hk h' tk m' _ [] hz no (by simp) F' N' hf.1 hf.2.1 hf.2.2
end
end Mine
namespace Mine
theorem HF.keep {Y m m' so far k l} (h : HF Y m so far k l) (names : List Str) (hm : ∀ z, names.contains z = false → m' z = m z) (hn : ([Str.ofString "sort", Str.ofString "who", Str.ofString "lock", Str.ofString "far", Str.ofString "name", Str.ofString "due"].all fun z => !names.contains z) = true) : HF Y m' so far k l := by
  simp only [List.all_cons, List.all_nil, Bool.and_true, Bool.and_eq_true, Bool.not_eq_true'] at hn
  obtain ⟨a1, a2, a3, a4, a5, a6⟩ := hn
  obtain ⟨⟨t1, b1⟩, ⟨t2, b2⟩, ⟨t3, b3⟩, ⟨t4, b4⟩, ⟨t5, b5⟩, b6⟩ := h
  exact ⟨⟨t1, (hm _ a1).trans b1⟩, ⟨t2, (hm _ a2).trans b2⟩, ⟨t3, (hm _ a3).trans b3⟩, ⟨t4, (hm _ a4).trans b4⟩, ⟨t5, (hm _ a5).trans b5⟩, (hm _ a6).trans b6⟩
def JD (w : World) (L : Addr) (Y : SK → Addr) (own : List (Addr × Obj)) (σ : St) (k : Nat) (lv : List Value) (m₀ : Str → Option Value) (i : Nat) (m₁ : Str → Option Value) (nx : List (Addr × Obj)) : Prop :=
  ∃ σ', Inv w L Y σ' nx ∧ Own Y own nx ∧ (∀ z, stay.contains z = false → m₁ z = m₀ z) ∧ DeedsAre nx lv σ.log ∧ Mid σ σ' k ∧ σ'.due.length ≤ i ∧ σ'.done k = σ.done k + i
section
variable {σ σ' : St} {k i : Nat} {d : Deed} {es : List Deed}
theorem mid_next (hk3 : k < 3) (M : Mid σ σ' k) (hdue : σ'.due.length ≤ i) (hi : i < 4) (hdone : σ'.done k = σ.done k + i) (hd : σ.log[σ.done k + i]? = some d) (hes : ∀ d ∈ es, Deed.ok d ∧ d.time = none) (hel : es.length ≤ 1) : Mid σ (bodyNext σ' k d es) k := by
  have hlt : σ'.done k < σ.log.length := by
    rcases Nat.lt_or_ge (σ'.done k) σ.log.length with q | q
    · exact q
    · rw [← hdone, List.getElem?_eq_none q] at hd; cases hd
  refine ⟨M.auto, M.now, M.seen, M.log, fun k' hk' => ?_, fun k' hk' => ?_, ?_, ?_⟩
  · have := M.sent k' hk'
    by_cases e : k' = k
    · subst e
      rw [if_pos rfl] at this ⊢
      simp only [bodyNext, updN_self, this, List.append_assoc]
    · rw [if_neg e] at this ⊢
      simp only [bodyNext, updN_ne e, this]
  · have := M.tab k' hk'
    by_cases e : k' = k
    · subst e
      simp only [bodyNext, updN_self]
      refine ⟨?_, hlt⟩
      rw [tabOf_next (by rw [hdone]; exact hd), this.1, M.auto]
    · simp only [bodyNext, updN_ne e]
      exact this
  · intro d' hd'
    rcases List.mem_append.mp hd' with q | q
    · exact M.okD d' q
    · exact ⟨(hes d' q).1, fun t ht => by rw [(hes d' q).2] at ht; cases ht⟩
  · simp only [bodyNext, List.length_append]; omega
end
section
variable {w : World} {h₀ : Heap} {L fa : Addr} {cd : Value} {mg mb : Str → Option Value} {mean : ExcName → Option Value} {E : Value → Shared → Prop} {Q : Flow → Shared → Prop} {s : Shared} {m : Str → Option Value}
  {Y : SK → Addr} {σ : St} {nx own : List (Addr × Obj)} {so far : Int} {k : Nat} {l : Str}
variable (KX : (Mine.hd.heap_1 w.params).In h₀) (T : Top viewQ (looseW viewQ []) mean mg mb h₀) (B : Below callerA h₀ [] h₀)
  (hE : PassesOwn (model prg w) (lawA L fa cd) (lawEnv L fa cd) E)
  (F : Fr h₀ L s.heap m) (N : News h₀ L s.heap nx) (I : Inv w L Y σ nx) (lf : LF Y m) (O : Own Y own nx)
include KX T B hE F N I lf O
theorem g_deeds (hk3 : k < 3) (hso : 4 ≤ so) (P : Pre σ) (H : HF Y m so far k l) (hfar : 0 ≤ far)
    (hk : ∀ h' tk m' σ' nx', (∀ z, stay.contains z = false → m' z = m z) → Fr h₀ L h' m' → News h₀ L h' nx' → Inv w L Y σ' nx' → Mid σ σ' k → Own Y own nx' → Q .next { s with heap := h', toks := tk }) :
    wpAny (model prg w) (lawA L fa cd) (exec ifS (lawEnv L fa cd)) Q E s := by
  obtain ⟨ts, hs1⟩ := H.sort
  obtain ⟨tw, hs2⟩ := H.who
  obtain ⟨tf, hs3⟩ := H.far
  obtain ⟨_, m12, ndn, r0, r1, r2, rfl⟩ := I.has .dn trivial
  obtain ⟨_, m13, lv, nl, rfl, hlv⟩ := I.has .lg trivial
  obtain ⟨tr, hr⟩ := ints_at (f := fun i => ((σ.done i : Nat) : Int)) (t0 := r0) (t1 := r1) (t2 := r2) hk3
  have hsub : ∀ p ∈ nx, p ∈ (Y .dn, listOf [Value.int (σ.done 0 : Nat) r0, .int (σ.done 1 : Nat) r1, .int (σ.done 2 : Nat) r2].toArray ndn) :: (Y .lg, listOf lv.toArray nl) :: nx := fun p hp => by k_ownIn
  have hf1 := fmod_lo far (n := 4) (by omega)
  have hf2 := fmod_hi far (n := 4) (by omega)
  refine t_for KX T B hE (JD w L Y own σ k lv) F hk3 hso hfar hs1 hs2 hs3 lf.dn lf.lg hr (deeds_len hlv (Nat.le_trans P.log (by omega))) (rest := nx)
    (news_sub N (List.forall_mem_cons.mpr ⟨m12, List.forall_mem_cons.mpr ⟨m13, fun p hp => hp⟩⟩)) ?_ ?_ ?_
  · refine ⟨σ, I.sub hsub, fun p hp => ⟨hsub p (O p hp).1, (O p hp).2⟩, fun _ _ => rfl, hlv.mono (TupSub.of_sub hsub), ?_, by simp [P.due], rfl⟩
    exact ⟨rfl, Int.le_refl _, rfl, rfl, fun k' _ => by simp [P.due], P.tab, by simp [P.due], by simp [P.due]⟩
  · rintro i v m₁ nx₁ h tk own9 Q' hv hnt hoff ⟨σ', I', O', hz, hlv', M, hdue, hdone⟩ F₁ N₁
    rw [List.getElem?_take] at hv
    have hi : i < (((σ.done k : Nat) : Int) + 1 + far.fmod 4).toNat - σ.done k := by
      rcases Nat.lt_or_ge i ((((σ.done k : Nat) : Int) + 1 + far.fmod 4).toNat - σ.done k) with q | q
      · exact q
      · rw [if_neg (by omega)] at hv; cases hv
    rw [if_pos hi, List.getElem?_drop] at hv
    obtain ⟨d, hd, hda⟩ := hlv'.get hv
    have hsub' : ∀ p ∈ nx₁, p ∈ nx₁ ++ own9 := fun p hp => List.mem_append_left _ hp
    have hm' : ∀ z, stay.contains z = false → (fun y => if y = Str.ofString "deed" then some v else m₁ y) z = m z := fun z hz' => by
      simp only [if_neg (ne_of_notin (x := Str.ofString "deed") hz' (by decide))]
      exact hz z hz'
    have hsent : (σ'.sent k).length ≤ 1000 := by
      have h1 := M.sent k hk3
      have h2 := P.sent k hk3
      have h3 := M.len
      rw [if_pos rfl] at h1
      rw [h1, List.length_append]; omega
    refine g_body KX T B F₁ N₁ (I'.sub hsub') (lf.keep stay hm' (by decide)) (own_in I' O' hoff) hk3 (H.keep stay hm' (by decide)) (v := v) (d := d) (by simp) (hda.mono (TupSub.of_sub hsub')) (P.ok d (List.mem_of_getElem? hd)) hsent (by have := M.len; omega) ?_
    intro h' tk' m' nx' es hz2 hes hel F' N' I2 O2 hT2
    refine turn_out F' N' I2 O2 hnt (own_sep O' hoff) fun I3 O3 hT3 => ?_
    refine ⟨_, I3, O3, fun z hz' => (hz2 z ?_).trans (hm' z hz'), hlv'.mono (((TupSub.of_sub hsub').trans hT2).trans hT3), mid_next hk3 M hdue (by omega) hdone hd hes hel, ?_, ?_⟩
    · simp only [stay, List.contains_cons, Bool.or_eq_false_iff] at hz'
      simp only [List.contains_cons, Bool.or_eq_false_iff]
      exact hz'.2.2
    · simp only [bodyNext, List.length_append]; omega
    · simp only [bodyNext, updN_self]; omega
  · rintro m₁ nx₁ h tk ⟨σ', I', O', hz, _, M, _, _⟩ F₁ N₁
    exact hk h tk m₁ σ' nx₁ hz F₁ N₁ I' M O'
end
end Mine
namespace Mine
def sentS (σ : St) (wh i : Nat) : St := { σ with seen := fun j => if j < i then (σ.sent j).length else σ.seen j, log := σ.log ++ (if wh < i then σ.due else []) }
abbrev sentN : List Str := [Str.ofString "k", Str.ofString "sent", Str.ofString "log"]
def JS (w : World) (L : Addr) (Y : SK → Addr) (own : List (Addr × Obj)) (σ : St) (wh : Nat) (m₀ : Str → Option Value) (i : Nat) (m₁ : Str → Option Value) (nx : List (Addr × Obj)) : Prop :=
  ∃ Y', (∀ s, s ≠ SK.lg → Y' s = Y s) ∧ Inv w L Y' (sentS σ wh i) nx ∧ Own Y' own nx ∧ (∀ z, sentN.contains z = false → m₁ z = m₀ z) ∧ m₁ (Str.ofString "log") = some (.ref (Y' .lg))
theorem LF.relog {Y Y' : SK → Addr} {m m' : Str → Option Value} (h : LF Y m) (hY : ∀ s, s ≠ SK.lg → Y' s = Y s) (names : List Str) (hm : ∀ z, names.contains z = false → m' z = m z) (hl : m' (Str.ofString "log") = some (.ref (Y' .lg)))
    (hn : ([Str.ofString "managers", Str.ofString "tables", Str.ofString "names", Str.ofString "done", Str.ofString "rounds", Str.ofString "seen"].all fun z => !names.contains z) = true) : LF Y' m' := by
  simp only [List.all_cons, List.all_nil, Bool.and_true, Bool.and_eq_true, Bool.not_eq_true'] at hn
  obtain ⟨a1, a2, a3, a4, a5, a6⟩ := hn
  refine ⟨(hm _ a1).trans ?_, (hm _ a2).trans ?_, (hm _ a3).trans ?_, (hm _ a4).trans ?_, (hm _ a5).trans ?_, (hm _ a6).trans ?_, hl⟩
  · rw [hY _ (by simp)]; exact h.ml
  · rw [hY _ (by simp)]; exact h.tl
  · rw [hY _ (by simp)]; exact h.nm
  · rw [hY _ (by simp)]; exact h.dn
  · rw [hY _ (by simp)]; exact h.rd
  · rw [hY _ (by simp)]; exact h.se
theorem seen_set {σ : St} {wh : Nat} {t0 t1 t2 u : Tok} {k : Nat} {x : Int} (hk : k < 3) (hx : x = ((σ.sent k).length : Int)) : ∃ u0 u1 u2, [Value.int ((sentS σ wh k).seen 0 : Nat) t0, .int ((sentS σ wh k).seen 1 : Nat) t1, .int ((sentS σ wh k).seen 2 : Nat) t2].set k (.int x u) = [Value.int ((sentS σ wh (k + 1)).seen 0 : Nat) u0, .int ((sentS σ wh (k + 1)).seen 1 : Nat) u1, .int ((sentS σ wh (k + 1)).seen 2 : Nat) u2] := by
  subst hx
  rcases k with _ | _ | _ | k
  · exact ⟨u, t1, t2, by simp [sentS]⟩
  · exact ⟨t0, u, t2, by simp [sentS]⟩
  · exact ⟨t0, t1, u, by simp [sentS]⟩
  · omega
theorem sent_same1 {σ : St} {wh i : Nat} {s : SK} (h : s ≠ .se) : SameAt (sentS σ wh i) { sentS σ wh (i + 1) with log := (sentS σ wh i).log } s := by cases s <;> simp_all [SameAt, sentS]
theorem sent_same2 {σ : St} {wh i : Nat} {s : SK} (h : s ≠ .lg) : SameAt { sentS σ wh (i + 1) with log := (sentS σ wh i).log } (sentS σ wh (i + 1)) s := by cases s <;> simp_all [SameAt, sentS]
section
variable {w : World} {h₀ : Heap} {L fa : Addr} {cd : Value} {mg mb : Str → Option Value} {mean : ExcName → Option Value} {E : Value → Shared → Prop} {Q : Flow → Shared → Prop} {s : Shared} {m : Str → Option Value}
  {Y : SK → Addr} {σ : St} {nx own : List (Addr × Obj)} {so far : Int} {wh : Nat} {l : Str}
variable (KX : (Mine.hd.heap_1 w.params).In h₀) (T : Top viewQ (looseW viewQ []) mean mg mb h₀) (B : Below callerA h₀ [] h₀)
  (hE : PassesOwn (model prg w) (lawA L fa cd) (lawEnv L fa cd) E)
  (F : Fr h₀ L s.heap m) (N : News h₀ L s.heap nx) (I : Inv w L Y σ nx) (lf : LF Y m) (O : Own Y own nx)
include KX T B hE F N I lf O
set_option maxHeartbeats 1000000 in
theorem g_sent (hk3 : wh < 3) (H : HF Y m so far wh l) (hsent : ∀ j, j < 3 → (σ.sent j).drop (σ.seen j) = if j = wh then σ.due else []) (hseen : ∀ j, j < 3 → σ.seen j ≤ (σ.sent j).length) (hlen : ∀ j, j < 3 → (σ.sent j).length ≤ 1000) (hll : σ.log.length + σ.due.length ≤ 1000) (hok : ∀ d ∈ σ.due, Deed.ok d)
    (hk : ∀ h' tk m' Y' nx', (∀ z, sentN.contains z = false → m' z = m z) → Fr h₀ L h' m' → News h₀ L h' nx' → Inv w L Y' (sentS σ wh 3) nx' → LF Y' m' → Own Y' own nx' → Q .next { s with heap := h', toks := tk }) :
    wpAny (model prg w) (lawA L fa cd) (exec forKS (lawEnv L fa cd)) Q E s := by
  obtain ⟨tw, hs2⟩ := H.who
  refine t_forK KX T B hE (JS w L Y own σ wh) F N ?_ ?_ ?_
  · refine ⟨Y, fun _ _ => rfl, ?_, O, fun _ _ => rfl, lf.lg⟩
    have e : sentS σ wh 0 = σ := by simp [sentS]
    rw [e]; exact I
  · rintro i t m₁ nx₁ h tk own9 Q' hi hnt hoff ⟨Y', hY, I', O', hz, hlg⟩ F₁ N₁
    have hsub' : ∀ p ∈ nx₁, p ∈ nx₁ ++ own9 := fun p hp => List.mem_append_left _ hp
    have I1 := I'.sub hsub'
    have O1 := own_in I' O' hoff
    have hsep := own_sep O' hoff
    have hm' : ∀ z, sentN.contains z = false → (fun y => if y = Str.ofString "k" then some (.int (i : Int) t) else m₁ y) z = m z := fun z hz' => by
      simp only [if_neg (ne_of_notin (x := Str.ofString "k") hz' (by decide))]
      exact hz z hz'
    have hlg' : (fun y => if y = Str.ofString "k" then some (Value.int (i : Int) t) else m₁ y) (Str.ofString "log") = some (.ref (Y' .lg)) := hlg
    have lf' := lf.relog hY sentN hm' hlg' (by decide)
    have hwho : (fun y => if y = Str.ofString "k" then some (Value.int (i : Int) t) else m₁ y) (Str.ofString "who") = some (.int wh tw) := (hm' _ (by decide)).trans hs2
    have hdu : (fun y => if y = Str.ofString "k" then some (Value.int (i : Int) t) else m₁ y) (Str.ofString "due") = some (.ref (Y' .du)) := (hm' _ (by decide)).trans (by rw [hY _ (by simp)]; exact H.due)
    obtain ⟨_, m1, rfl⟩ := I1.has (.mg i) hi
    obtain ⟨_, m2, tt, rfl⟩ := I1.has (.md i) hi
    obtain ⟨_, m3, vs, n, rfl, hvs⟩ := I1.has (.sn i) hi
    obtain ⟨_, m4, nml, rfl⟩ := I1.has .ml trivial
    obtain ⟨_, m5, nse, r0, r1, r2, rfl⟩ := I1.has .se trivial
    obtain ⟨_, m6, dv, cdu, rfl, hdv⟩ := I1.has .du trivial
    obtain ⟨_, m7, lv, nl, rfl, hlv⟩ := I1.has .lg trivial
    have hseeni : (sentS σ wh i).seen i = σ.seen i := by simp [sentS]
    obtain ⟨tr, hr⟩ := ints_at (f := fun j => (((sentS σ wh i).seen j : Nat) : Int)) (t0 := r0) (t1 := r1) (t2 := r2) hi
    rw [hseeni] at hr
    have hvs' : DeedsAre (nx₁ ++ own9) (vs.drop (σ.seen i)) (if i = wh then σ.due else []) := by rw [← hsent i hi]; exact hvs.drop _
    have hSok : ∀ s ∈ [SK.se], s.ok := by simp [SK.ok]
    have hT := tup_offS N₁ I1 hSok
    have hvl : vs.length = (σ.sent i).length := hvs.length
    have hN : News h₀ L h ((Y' (.mg i), instObj 143 (Y' (.md i))) :: (Y' (.md i), mdD w tt (Y' (.im i)) (nmS i) (sentS σ wh i).auto (Y' .g) ((sentS σ wh i).last i) (Y' (.sn i))) :: (Y' (.sn i), listOf vs.toArray n) :: (Y' .ml, listOf [Value.ref (Y' (.mg 0)), .ref (Y' (.mg 1)), .ref (Y' (.mg 2))].toArray nml) :: (Y' .se, listOf [Value.int ((sentS σ wh i).seen 0 : Nat) r0, .int ((sentS σ wh i).seen 1 : Nat) r1, .int ((sentS σ wh i).seen 2 : Nat) r2].toArray nse) :: (Y' .du, listOf dv.toArray cdu) :: (Y' .lg, listOf lv.toArray nl) :: offS Y' [.se] (nx₁ ++ own9)) :=
      news_sub N₁ (List.forall_mem_cons.mpr ⟨m1, List.forall_mem_cons.mpr ⟨m2, List.forall_mem_cons.mpr ⟨m3, List.forall_mem_cons.mpr ⟨m4, List.forall_mem_cons.mpr ⟨m5, List.forall_mem_cons.mpr ⟨m6, List.forall_mem_cons.mpr ⟨m7, fun p hp => (mem_offS.mp hp).1⟩⟩⟩⟩⟩⟩⟩)
    have hll' : lv.length ≤ 1000 := by
      have h1 := hlv.length
      simp only [sentS, List.length_append] at h1
      split at h1
      · rw [h1]; omega
      · rw [h1]; simp only [List.length_nil]; omega
    have hv1 : vs.length ≤ 1000 := by rw [hvl]; exact hlen i hi
    have hv2 : (vs.drop (σ.seen i)).length ≤ 1000 := by rw [List.length_drop]; omega
    have fin : ∀ (h' : Heap) (tk' : Nat) (m' : Str → Option Value) (D : Addr) (u : Tok), (∀ z, List.contains [Str.ofString "sent", Str.ofString "log"] z = false → m' z = (fun y => if y = Str.ofString "k" then some (Value.int (i : Int) t) else m₁ y) z) → m' (Str.ofString "log") = some (.ref D) → Fr h₀ L h' m' →
        (∀ p ∈ (Y' (.mg i), instObj 143 (Y' (.md i))) :: (Y' (.md i), mdD w tt (Y' (.im i)) (nmS i) (sentS σ wh i).auto (Y' .g) ((sentS σ wh i).last i) (Y' (.sn i))) :: (Y' (.sn i), listOf vs.toArray n) :: (Y' .ml, listOf [Value.ref (Y' (.mg 0)), .ref (Y' (.mg 1)), .ref (Y' (.mg 2))].toArray nml) :: (Y' .se, listOf ([Value.int ((sentS σ wh i).seen 0 : Nat) r0, .int ((sentS σ wh i).seen 1 : Nat) r1, .int ((sentS σ wh i).seen 2 : Nat) r2].set (i : Int).toNat (.int (((σ.seen i : Nat) : Int) + (vs.drop (σ.seen i)).length) u)).toArray nse) :: (Y' .du, listOf dv.toArray cdu) :: (Y' .lg, listOf lv.toArray nl) :: offS Y' [.se] (nx₁ ++ own9), p.1 ≠ D) →
        News h₀ L h' ((D, listOf (lv ++ vs.drop (σ.seen i)).toArray 0) :: (Y' (.mg i), instObj 143 (Y' (.md i))) :: (Y' (.md i), mdD w tt (Y' (.im i)) (nmS i) (sentS σ wh i).auto (Y' .g) ((sentS σ wh i).last i) (Y' (.sn i))) :: (Y' (.sn i), listOf vs.toArray n) :: (Y' .ml, listOf [Value.ref (Y' (.mg 0)), .ref (Y' (.mg 1)), .ref (Y' (.mg 2))].toArray nml) :: (Y' .se, listOf ([Value.int ((sentS σ wh i).seen 0 : Nat) r0, .int ((sentS σ wh i).seen 1 : Nat) r1, .int ((sentS σ wh i).seen 2 : Nat) r2].set (i : Int).toNat (.int (((σ.seen i : Nat) : Int) + (vs.drop (σ.seen i)).length) u)).toArray nse) :: (Y' .du, listOf dv.toArray cdu) :: (Y' .lg, listOf lv.toArray nl) :: offS Y' [.se] (nx₁ ++ own9)) →
        InvPostG h₀ L (JS w L Y own σ wh m (i + 1)) own9 { s with heap := h, toks := tk } Q' .next { s with heap := h', toks := tk' } := by
      intro h' tk' m' D u hz2 hlD F' hne N'
      obtain ⟨u0, u1, u2, hset⟩ := seen_set (σ := σ) (wh := wh) (t0 := r0) (t1 := r1) (t2 := r2) (u := u) (x := ((σ.seen i : Nat) : Int) + (vs.drop (σ.seen i)).length) hi (by
        have := hseen i hi
        rw [List.length_drop, hvl]; omega)
      rw [Int.toNat_natCast, hset] at hne N'
      generalize hR : offS Y' [.se] (nx₁ ++ own9) = R at hne N' hT
      generalize hW : (Y' (.mg i), instObj 143 (Y' (.md i))) :: (Y' (.md i), mdD w tt (Y' (.im i)) (nmS i) (sentS σ wh i).auto (Y' .g) ((sentS σ wh i).last i) (Y' (.sn i))) :: (Y' (.sn i), listOf vs.toArray n) :: (Y' .ml, listOf [Value.ref (Y' (.mg 0)), .ref (Y' (.mg 1)), .ref (Y' (.mg 2))].toArray nml) :: (Y' .se, listOf [Value.int ((sentS σ wh (i + 1)).seen 0 : Nat) u0, .int ((sentS σ wh (i + 1)).seen 1 : Nat) u1, .int ((sentS σ wh (i + 1)).seen 2 : Nat) u2].toArray nse) :: (Y' .du, listOf dv.toArray cdu) :: (Y' .lg, listOf lv.toArray nl) :: R = W at hne N'
      have hRW : ∀ p ∈ R, p ∈ W := by rw [← hW]; intro p hp; k_ownIn
      have hTW : TupSub (nx₁ ++ own9) W := hT.trans (TupSub.of_sub hRW)
      have I2 : Inv w L Y' { sentS σ wh (i + 1) with log := (sentS σ wh i).log } W := by
        refine I1.next [.se] hSok ?_ (by rw [hR]; exact hRW) hTW ?_
        · intro s hs
          rw [List.mem_singleton.mp hs]
          exact ⟨_, by rw [← hW]; k_mem, nse, u0, u1, u2, rfl⟩
        · exact fun s hs _ => sent_same1 (by simpa using hs)
      have hWn : ∀ p ∈ W, p ∈ (D, listOf (lv ++ vs.drop (σ.seen i)).toArray 0) :: W := fun p hp => List.Mem.tail _ hp
      have hDne : ∀ s, s.ok → D ≠ Y' s := fun s hs e => by
        obtain ⟨o, ho, _⟩ := I2.has s hs
        exact hne _ ho e.symm
      have I3 : Inv w L (upY Y' .lg D) (sentS σ wh (i + 1)) ((D, listOf (lv ++ vs.drop (σ.seen i)).toArray 0) :: W) := by
        refine I2.renew (.inr rfl) hDne _ (.head _) ⟨_, 0, rfl, ?_⟩ hWn ?_
        · have e : (sentS σ wh (i + 1)).log = (sentS σ wh i).log ++ (if i = wh then σ.due else []) := by
            simp only [sentS, List.append_assoc]
            congr 1
            by_cases q : i = wh
            · subst q; simp
            · by_cases q2 : wh < i
              · rw [if_pos q2, if_pos (by omega), if_neg q]; simp
              · rw [if_neg q2, if_neg (by omega), if_neg q]; rfl
          rw [e]
          exact ((hlv.append hvs').mono (hTW.trans (TupSub.of_sub hWn)))
        · exact fun s hs _ => sent_same2 hs
      have O3 : Own (upY Y' .lg D) (own ++ own9) ((D, listOf (lv ++ vs.drop (σ.seen i)).toArray 0) :: W) := by
        intro p hp
        obtain ⟨q1, q2⟩ := O1 p hp
        have q3 : p ∈ W := hRW _ (by rw [← hR]; exact mem_offS.mpr ⟨q1, fun s hs => q2 s (hSok s hs)⟩)
        refine ⟨.tail _ q3, fun s hs e => ?_⟩
        by_cases q : s = .lg
        · subst q; rw [upY_self] at e; exact hne _ q3 e
        · rw [upY_ne q] at e; exact q2 s hs e
      refine turn_out F' N' I3 O3 hnt hsep fun I4 O4 _ => ⟨_, fun s hs => (upY_ne hs).trans (hY s hs), I4, O4, fun z hz' => (hz2 z ?_).trans (hm' z hz'), by rw [upY_self]; exact hlD⟩
      simp only [sentN, List.contains_cons, Bool.or_eq_false_iff] at hz'
      simp only [List.contains_cons, Bool.or_eq_false_iff]
      exact hz'.2
    by_cases e : i = wh
    · rw [if_pos e] at hvs'
      refine t_sentWho (tk0 := t) KX T B F₁ hi (by rw [e]) (rest := offS Y' [.se] (nx₁ ++ own9)) (ds := σ.due.map Deed.dat) (hvs'.mono hT).dat (hdv.mono hT).dat ?_ (by rfl) hwho lf'.ml lf'.se hdu lf'.lg (refs_at (c := .mg) hi) hr ints_are rfl hN (offS_own (by simp)) (I1.ne hi trivial (by simp)) (I1.ne trivial trivial (by simp)) (I1.ne trivial trivial (by simp)) (I1.ne trivial trivial (by simp)) hv1 hv2 hll' fin
      intro d hd
      obtain ⟨d', hd', rfl⟩ := List.mem_map.mp hd
      exact deed_kqd (hok d' hd')
    · rw [if_neg e] at hvs'
      refine t_sentOther (tk0 := t) KX T B F₁ hi (by omega) (rest := offS Y' [.se] (nx₁ ++ own9)) (deeds_nil hvs' rfl) (by rfl) hwho lf'.ml lf'.se hdu lf'.lg (refs_at (c := .mg) hi) hr ints_are rfl hN (offS_own (by simp)) (I1.ne hi trivial (by simp)) (I1.ne trivial trivial (by simp)) (I1.ne trivial trivial (by simp)) (I1.ne trivial trivial (by simp)) hv1 hv2 hll' fin
  · rintro m₁ nx₁ h tk ⟨Y', hY, I', O', hz, hlg⟩ F₁ N₁
    exact hk h tk m₁ Y' nx₁ hz F₁ N₁ I' (lf.relog hY sentN hz hlg (by decide)) O'
end
end Mine
namespace Mine
theorem nmS_inj {i j : Nat} (hi : i < 3) (hj : j < 3) (h : nmS i = nmS j) : i = j := by
  rcases i with _ | _ | _ | i <;> rcases j with _ | _ | _ | j <;> first | rfl | omega | (exfalso; revert h; decide +kernel)
def holds (σ : St) (l : Str) (k : Nat) : Prop := hasTab (σ.tab k) l (nmS k) σ.now σ.auto = true ∧ Deed.rel l (nmS k) ∉ σ.log.drop (σ.done k)
theorem holds_one {σ : St} {l : Str} (ht : ∀ k, k < 3 → σ.tab k = tabOf σ.auto (σ.log.take (σ.done k))) (hT : TimesOk σ.now σ.log) {i j : Nat} (hi : i < 3) (hj : j < 3) (h1 : holds σ l i) (h2 : holds σ l j) : i = j := by
  refine nmS_inj hi hj (mutex (auto := σ.auto) hT (d1 := σ.done i) (d2 := σ.done j) ?_ ?_ h1.2 h2.2)
  · rw [← ht i hi]; exact h1.1
  · rw [← ht j hj]; exact h2.1
abbrev holdN : List Str := [Str.ofString "k", Str.ofString "has", Str.ofString "holders"]
abbrev lockN : List Str := [Str.ofString "lock", Str.ofString "k", Str.ofString "has", Str.ofString "holders"]
def JH (w : World) (L : Addr) (Y : SK → Addr) (own : List (Addr × Obj)) (σ : St) (l : Str) (m₀ : Str → Option Value) (i : Nat) (m₁ : Str → Option Value) (nx : List (Addr × Obj)) : Prop :=
  Inv w L Y σ nx ∧ Own Y own nx ∧ (∀ z, holdN.contains z = false → m₁ z = m₀ z) ∧ ∃ c t, m₁ (Str.ofString "holders") = some (.int c t) ∧ ((c = 0 ∧ ∀ j, j < i → ¬ holds σ l j) ∨ (c = 1 ∧ ∃ j, j < i ∧ j < 3 ∧ holds σ l j))
def JL (w : World) (L : Addr) (Y : SK → Addr) (own : List (Addr × Obj)) (σ : St) (m₀ : Str → Option Value) (_ : Nat) (m₁ : Str → Option Value) (nx : List (Addr × Obj)) : Prop :=
  Inv w L Y σ nx ∧ Own Y own nx ∧ (∀ z, lockN.contains z = false → m₁ z = m₀ z)
theorem Own.sub {Y : SK → Addr} {own nx nx' : List (Addr × Obj)} (O : Own Y own nx) (h : ∀ p ∈ nx, p ∈ nx') : Own Y own nx' := fun p hp => ⟨h p (O p hp).1, (O p hp).2⟩
section
variable {w : World} {h₀ : Heap} {L fa : Addr} {cd : Value} {mg mb : Str → Option Value} {mean : ExcName → Option Value} {E : Value → Shared → Prop} {Q : Flow → Shared → Prop} {s : Shared} {m : Str → Option Value}
  {Y : SK → Addr} {σ : St} {nx own : List (Addr × Obj)}
variable (KX : (Mine.hd.heap_1 w.params).In h₀) (T : Top viewQ (looseW viewQ []) mean mg mb h₀) (B : Below callerA h₀ [] h₀)
  (hE : PassesOwn (model prg w) (lawA L fa cd) (lawEnv L fa cd) E)
  (F : Fr h₀ L s.heap m) (N : News h₀ L s.heap nx) (I : Inv w L Y σ nx) (lf : LF Y m) (O : Own Y own nx)
include KX T B hE F N I lf O
set_option maxHeartbeats 1000000 in
theorem g_lock {l : Str} {tl : Tok} (hl : isLock l) (hlm : m (Str.ofString "lock") = some (.str l tl)) (ht : ∀ k, k < 3 → σ.tab k = tabOf σ.auto (σ.log.take (σ.done k))) (hT : TimesOk σ.now σ.log) (hok : ∀ d ∈ σ.log, Deed.ok d) (hlen : σ.log.length ≤ 1000)
    (hk : ∀ h' tk m' nx', (∀ z, holdN.contains z = false → m' z = m z) → Fr h₀ L h' m' → News h₀ L h' nx' → Inv w L Y σ nx' → Own Y own nx' → Q .next { s with heap := h', toks := tk }) :
    wpAny (model prg w) (lawA L fa cd) (execs lBody (lawEnv L fa cd)) Q E s := by
  refine t_lock KX T B hE (JH w L Y own σ l) F N ?_ ?_ ?_ ?_
  · intro t
    refine ⟨I, O, fun z hz => ?_, 0, t, rfl, .inl ⟨rfl, fun j hj => absurd hj (by omega)⟩⟩
    exact if_neg (ne_of_notin (x := Str.ofString "holders") hz (by decide))
  · rintro m₁ nx₁ ⟨_, _, _, c, t, hm, hc⟩
    refine ⟨c, t, hm, ?_⟩
    rcases hc with ⟨h, _⟩ | ⟨h, _⟩ <;> omega
  · rintro i t m₁ nx₁ h tk own9 Q' hi hnt hoff ⟨I', O', hz, c, tc, hm, hc⟩ F₁ N₁
    have hsub' : ∀ p ∈ nx₁, p ∈ nx₁ ++ own9 := fun p hp => List.mem_append_left _ hp
    have I1 := I'.sub hsub'
    have O1 := own_in I' O' hoff
    have hsep := own_sep O' hoff
    have hm' : ∀ z, holdN.contains z = false → (fun y => if y = Str.ofString "k" then some (.int (i : Int) t) else m₁ y) z = m z := fun z hz' => by
      simp only [if_neg (ne_of_notin (x := Str.ofString "k") hz' (by decide))]
      exact hz z hz'
    have lf' := lf.keep holdN hm' (by decide)
    have hlk : (fun y => if y = Str.ofString "k" then some (Value.int (i : Int) t) else m₁ y) (Str.ofString "lock") = some (.str l tl) := (hm' _ (by decide)).trans hlm
    have hho : (fun y => if y = Str.ofString "k" then some (Value.int (i : Int) t) else m₁ y) (Str.ofString "holders") = some (.int c tc) := hm
    obtain ⟨_, m1, rfl⟩ := I1.has (.mg i) hi
    obtain ⟨_, m2, tt, rfl⟩ := I1.has (.md i) hi
    obtain ⟨_, m3, rfl⟩ := I1.has (.im i) hi
    obtain ⟨_, m4, t1, t2, t3, rfl⟩ := I1.has (.di i) hi
    obtain ⟨ol, m5, hol, lo1⟩ := I1.has (.lk i) hi
    obtain ⟨ot, m6, hot, lo2⟩ := I1.has (.tb i) hi
    obtain ⟨_, m7, rfl⟩ := I1.has .g trivial
    obtain ⟨_, m8, tg, ag, rfl⟩ := I1.has .gd trivial
    obtain ⟨_, m10, nml, rfl⟩ := I1.has .ml trivial
    obtain ⟨_, m11, ntl, rfl⟩ := I1.has .tl trivial
    obtain ⟨_, m12, nnm, q0, q1, q2, rfl⟩ := I1.has .nm trivial
    obtain ⟨_, m13, ndn, r0, r1, r2, rfl⟩ := I1.has .dn trivial
    obtain ⟨_, m9, lv, nl, rfl, hlv⟩ := I1.has .lg trivial
    obtain ⟨oa, m14, ta, hoa⟩ := I1.has .ca trivial
    obtain ⟨og, m15, hog⟩ := I1.has .cg trivial
    obtain ⟨tr, hr⟩ := ints_at (f := fun j => ((σ.done j : Nat) : Int)) (t0 := r0) (t1 := r1) (t2 := r2) hi
    have hnmv : ∃ tn, [Value.str (nmS 0) q0, .str (nmS 1) q1, .str (nmS 2) q2][i]? = some (.str (nmS i) tn) := by
      rcases i with _ | _ | _ | i
      · exact ⟨_, rfl⟩
      · exact ⟨_, rfl⟩
      · exact ⟨_, rfl⟩
      · omega
    obtain ⟨tn, hnmv⟩ := hnmv
    rw [I.ca] at m14
    rw [I.cg] at m15
    have hdd : ∀ d ∈ (σ.log.drop (σ.done i)).map Deed.dat, kqdOk 8 d = true := fun d hd => by
      obtain ⟨d', hd', rfl⟩ := List.mem_map.mp hd
      exact deed_kqd (hok d' (List.mem_of_mem_drop hd'))
    have hll : lv.length ≤ 1000 := by rw [hlv.length]; exact hlen
    have hsame : ∀ {m' : Str → Option Value}, (∀ z, List.contains [Str.ofString "has", Str.ofString "holders"] z = false → m' z = (fun y => if y = Str.ofString "k" then some (Value.int (i : Int) t) else m₁ y) z) → ∀ z, holdN.contains z = false → m' z = m z := fun hz2 z hz' => (hz2 z (by
      simp only [holdN, List.contains_cons, Bool.or_eq_false_iff] at hz'
      simp only [List.contains_cons, Bool.or_eq_false_iff]
      exact hz'.2)).trans (hm' z hz')
    have hrel : ∀ {l' c' : Str}, Dat.tuple [Dat.str (Str.ofString "release"), Dat.str l', Dat.str c'] ∈ (σ.log.drop (σ.done i)).map Deed.dat ↔ Deed.rel l' c' ∈ σ.log.drop (σ.done i) := dat_rel_mem
    refine t_hold KX T B F₁ hi (hlv.drop (σ.done i)).dat hdd (deed_kqd (d := .rel l (nmS i)) ⟨hl, i, rfl⟩) (tk0 := t) rfl hlk lf'.ml lf'.tl lf'.nm lf'.lg lf'.dn hho (refs_at (c := .mg) hi) (refs_at (c := .tb) hi) hr hnmv (rest := nx₁ ++ own9)
      (news_sub N₁ (List.forall_mem_cons.mpr ⟨m1, List.forall_mem_cons.mpr ⟨m2, List.forall_mem_cons.mpr ⟨m3, List.forall_mem_cons.mpr ⟨m4, List.forall_mem_cons.mpr ⟨m5, List.forall_mem_cons.mpr ⟨m7, List.forall_mem_cons.mpr ⟨m8, List.forall_mem_cons.mpr ⟨m6, List.forall_mem_cons.mpr ⟨m10, List.forall_mem_cons.mpr ⟨m11, List.forall_mem_cons.mpr ⟨m12, List.forall_mem_cons.mpr ⟨m13, List.forall_mem_cons.mpr ⟨m9, List.forall_mem_cons.mpr ⟨m14, List.forall_mem_cons.mpr ⟨m15, fun p hp => hp⟩⟩⟩⟩⟩⟩⟩⟩⟩⟩⟩⟩⟩⟩⟩)) hoa hog hol hot lo1 lo2 hll ?_ ?_
    · intro e1 e2 h' tk' m' u hz2 hm2 F' N'
      have hI : holds σ l i := ⟨e1, fun hh => e2 (hrel.mpr hh)⟩
      refine turn_out F' N' (I1.sub fun p hp => by k_ownIn) (O1.sub fun p hp => by k_ownIn) hnt hsep fun I4 O4 _ => ⟨I4, O4, hsame hz2, c + 1, u, hm2, .inr ?_⟩
      rcases hc with ⟨h, _⟩ | ⟨_, j, hj, hj3, hJ⟩
      · exact ⟨by omega, i, by omega, hi, hI⟩
      · exact absurd (holds_one ht hT hj3 hi hJ hI) (by omega)
    · intro e1 h' tk' m' u hz2 hm2 F' N'
      have hI : ¬ holds σ l i := fun hh => e1 ⟨hh.1, fun q => hh.2 (hrel.mp q)⟩
      refine turn_out F' N' (I1.sub fun p hp => by k_ownIn) (O1.sub fun p hp => by k_ownIn) hnt hsep fun I4 O4 _ => ⟨I4, O4, hsame hz2, c, u, hm2, ?_⟩
      rcases hc with ⟨h, hn⟩ | ⟨h, j, hj, hj3, hJ⟩
      · refine .inl ⟨h, fun j hj => ?_⟩
        rcases Nat.lt_or_ge j i with q | q
        · exact hn j q
        · rw [show j = i by omega]; exact hI
      · exact .inr ⟨h, j, by omega, hj3, hJ⟩
  · rintro m₁ nx₁ h tk ⟨I', O', hz, _⟩ F₁ N₁
    exact hk h tk m₁ nx₁ hz F₁ N₁ I' O'
theorem g_hold (ht : ∀ k, k < 3 → σ.tab k = tabOf σ.auto (σ.log.take (σ.done k))) (hT : TimesOk σ.now σ.log) (hok : ∀ d ∈ σ.log, Deed.ok d) (hlen : σ.log.length ≤ 1000)
    (hk : ∀ h' tk m' nx', (∀ z, lockN.contains z = false → m' z = m z) → Fr h₀ L h' m' → News h₀ L h' nx' → Inv w L Y σ nx' → LF Y m' → Own Y own nx' → Q .next { s with heap := h', toks := tk }) :
    wpAny (model prg w) (lawA L fa cd) (exec forLS (lawEnv L fa cd)) Q E s := by
  refine t_forL KX T B hE (JL w L Y own σ) F N ⟨I, O, fun _ _ => rfl⟩ ?_ ?_
  · rintro i l t m₁ nx₁ h tk own9 Q' hl hnt hoff ⟨I', O', hz⟩ F₁ N₁
    have hsub' : ∀ p ∈ nx₁, p ∈ nx₁ ++ own9 := fun p hp => List.mem_append_left _ hp
    have hm' : ∀ z, lockN.contains z = false → (fun y => if y = Str.ofString "lock" then some (.str l t) else m₁ y) z = m z := fun z hz' => by
      simp only [if_neg (ne_of_notin (x := Str.ofString "lock") hz' (by decide))]
      exact hz z hz'
    refine g_lock KX T B hE F₁ N₁ (I'.sub hsub') (lf.keep lockN hm' (by decide)) (own_in I' O' hoff) hl (tl := t) rfl ht hT hok hlen ?_
    intro h' tk' m' nx' hz2 F' N' I2 O2
    refine turn_out F' N' I2 O2 hnt (own_sep O' hoff) fun I4 O4 _ => ⟨I4, O4, fun z hz' => (hz2 z ?_).trans (hm' z hz')⟩
    simp only [lockN, List.contains_cons, Bool.or_eq_false_iff] at hz'
    simp only [holdN, List.contains_cons, Bool.or_eq_false_iff]
    exact hz'.2
  · rintro i m₁ nx₁ h tk ⟨I', O', hz⟩ F₁ N₁
    exact hk h tk m₁ nx₁ hz F₁ N₁ I' (lf.keep lockN hz (by decide)) O'
end
end Mine
namespace Mine
theorem my_execs_app (a b : List Stmt) (env : Env) : execs (a ++ b) env = (do match ← execs a env with | .next => execs b env | f => pure f) := by
  induction a with
  | nil => rfl
  | cons s a ih =>
    rw [List.cons_append, execs_cons, execs_cons, bind_assoc]
    congr 1
    funext f
    cases f <;> first | exact ih | rfl
theorem my_app {M : Model} {A : Around} {a b : List Stmt} {env : Env} {Q : Flow → Shared → Prop} {E : Value → Shared → Prop} {s : Shared}
    (h : wpAny M A (execs a env) (fun f s' => match f with | .next => wpAny M A (execs b env) Q E s' | f => Q f s') E s) : wpAny M A (execs (a ++ b) env) Q E s := by
  rw [my_execs_app]
  refine wpAny_bind (wpAny_mono h (fun f s' h' => ?_) fun _ _ e => e)
  cases f <;> first | exact h' | exact wpAny_pure h'
theorem turn_eq : turnBody = headS ++ [ifS, forKS, forLS] := rfl
structure Good (σ : St) (i : Nat) : Prop where
  auto : 0 < σ.auto
  tab : ∀ k, k < 3 → σ.tab k = tabOf σ.auto (σ.log.take (σ.done k)) ∧ σ.done k ≤ σ.log.length
  seen : ∀ k, k < 3 → σ.seen k = (σ.sent k).length
  sent : ∀ k, k < 3 → (σ.sent k).length ≤ 4 * i
  log : σ.log.length ≤ 4 * i
  ok : ∀ d ∈ σ.log, Deed.ok d
  times : TimesOk σ.now σ.log
theorem good_next {σ σ' : St} {i k : Nat} (G : Good σ i) (M : Mid { σ with due := [] } σ' k) : Good (sentS σ' k 3) (i + 1) := by
  have hau : σ'.auto = σ.auto := M.auto
  have hlog : σ'.log = σ.log := M.log
  have hT : TimesOk σ'.now σ'.log := by rw [hlog]; exact times_later G.times M.now
  by_cases hk : k < 3
  · refine ⟨by show 0 < σ'.auto; rw [hau]; exact G.auto, fun j hj => ?_, fun j hj => ?_, fun j hj => ?_, ?_, ?_, ?_⟩
    · have := M.tab j hj
      show σ'.tab j = tabOf σ'.auto (List.take (σ'.done j) (σ'.log ++ if k < 3 then σ'.due else [])) ∧ σ'.done j ≤ (σ'.log ++ if k < 3 then σ'.due else []).length
      rw [hau, hlog, List.take_append_of_le_length this.2, List.length_append]
      exact ⟨this.1, Nat.le_trans this.2 (Nat.le_add_right _ _)⟩
    · simp [sentS, hj]
    · have h1 := M.sent j hj
      have h2 := G.sent j hj
      have h3 := M.len
      show (σ'.sent j).length ≤ _
      rw [h1]
      split
      · rw [List.length_append]; dsimp only; omega
      · dsimp only; omega
    · have h3 := M.len
      have h2 := G.log
      show (σ'.log ++ if k < 3 then σ'.due else []).length ≤ _
      rw [hlog, List.length_append, if_pos hk]; omega
    · intro d hd
      have hd' : d ∈ σ'.log ++ (if k < 3 then σ'.due else []) := hd
      rw [hlog, if_pos hk] at hd'
      rcases List.mem_append.mp hd' with q | q
      · exact G.ok d q
      · exact (M.okD d q).1
    · show TimesOk σ'.now (σ'.log ++ if k < 3 then σ'.due else [])
      rw [if_pos hk]
      exact times_app hT fun d hd t ht => (M.okD d hd).2 t ht
  · refine ⟨by show 0 < σ'.auto; rw [hau]; exact G.auto, fun j hj => ?_, fun j hj => ?_, fun j hj => ?_, ?_, ?_, ?_⟩
    · have := M.tab j hj
      show σ'.tab j = tabOf σ'.auto (List.take (σ'.done j) (σ'.log ++ if k < 3 then σ'.due else [])) ∧ σ'.done j ≤ (σ'.log ++ if k < 3 then σ'.due else []).length
      rw [hau, hlog, List.take_append_of_le_length this.2, List.length_append]
      exact ⟨this.1, Nat.le_trans this.2 (Nat.le_add_right _ _)⟩
    · simp [sentS, hj]
    · have h1 := M.sent j hj
      have h2 := G.sent j hj
      show (σ'.sent j).length ≤ _
      rw [h1, if_neg (by omega)]
      dsimp only; omega
    · have h2 := G.log
      show (σ'.log ++ if k < 3 then σ'.due else []).length ≤ _
      rw [hlog, List.length_append, if_neg hk]; simp only [List.length_nil]; omega
    · intro d hd
      have hd' : d ∈ σ'.log ++ (if k < 3 then σ'.due else []) := hd
      rw [hlog, if_neg hk, List.append_nil] at hd'
      exact G.ok d hd'
    · show TimesOk σ'.now (σ'.log ++ if k < 3 then σ'.due else [])
      rw [if_neg hk, List.append_nil]; exact hT
section
variable {w : World} {h₀ : Heap} {L fa : Addr} {cd : Value} {mg mb : Str → Option Value} {mean : ExcName → Option Value} {E : Value → Shared → Prop} {Q : Flow → Shared → Prop} {s : Shared} {m : Str → Option Value}
  {Y : SK → Addr} {σ : St} {nx own : List (Addr × Obj)}
variable (KX : (Mine.hd.heap_1 w.params).In h₀) (T : Top viewQ (looseW viewQ []) mean mg mb h₀) (B : Below callerA h₀ [] h₀)
  (hE : PassesOwn (model prg w) (lawA L fa cd) (lawEnv L fa cd) E)
  (F : Fr h₀ L s.heap m) (N : News h₀ L s.heap nx) (I : Inv w L Y σ nx) (lf : LF Y m) (O : Own Y own nx)
include KX T B hE F N I lf O
theorem g_if {so far : Int} {k : Nat} {l : Str} (hk3 : k < 3) (hl : isLock l) (hso : 0 ≤ so) (hfar : 0 ≤ far) (P : Pre σ) (H : HF Y m so far k l)
    (hk : ∀ h' tk m' σ' nx', (∀ z, stay.contains z = false → m' z = m z) → Fr h₀ L h' m' → News h₀ L h' nx' → Inv w L Y σ' nx' → Mid σ σ' k → Own Y own nx' → Q .next { s with heap := h', toks := tk }) :
    wpAny (model prg w) (lawA L fa cd) (exec ifS (lawEnv L fa cd)) Q E s := by
  by_cases h0 : so = 0
  · subst h0; exact g_now KX T B F N I lf O P H hfar hk
  by_cases h1 : so = 1
  · subst h1; exact g_try KX T B F N I lf O hk3 hl P H hk
  by_cases h2 : so = 2
  · subst h2; exact g_rel KX T B F N I lf O hk3 hl P H hk
  by_cases h3 : so = 3
  · subst h3; exact g_auto KX T B F N I lf O hk3 P H hk
  exact g_deeds KX T B hE F N I lf O hk3 (by omega) P H hfar hk
theorem g_turn {number : Int} {tn : Tok} {i : Nat} (hnum : m (Str.ofString "number") = some (.int number tn)) (G : Good σ i) (hi : i < 24)
    (hk : ∀ h' tk m' Y' σ' nx', Fr h₀ L h' m' → News h₀ L h' nx' → Inv w L Y' σ' nx' → Good σ' (i + 1) → LF Y' m' → Own Y' own nx' → Q .next { s with heap := h', toks := tk }) :
    wpAny (model prg w) (lawA L fa cd) (execs turnBody (lawEnv L fa cd)) Q E s := by
  rw [turn_eq]
  refine my_app ?_
  refine g_head KX T B F N I lf O hnum ?_
  intro h1 tk1 m1 Y1 nx1 so far k l hk3 hl hso hfar F1 N1 I1 lf1 H1 O1
  have P1 : Pre { σ with due := [] } := ⟨G.auto, G.tab, fun k hk => Nat.le_trans (G.sent k hk) (by omega), Nat.le_trans G.log (by omega), G.ok, rfl⟩
  refine wpAny_execs_cons ?_
  refine g_if KX T B hE F1 N1 I1 lf1 O1 hk3 hl hso hfar P1 H1 ?_
  intro h2 tk2 m2 σ2 nx2 hz2 F2 N2 I2 M2 O2
  have lf2 := lf1.keep stay hz2 (by decide)
  have H2 := H1.keep stay hz2 (by decide)
  have hseen2 : σ2.seen = σ.seen := M2.seen
  have hlog2 : σ2.log = σ.log := M2.log
  have G2 := good_next G M2
  refine wpAny_execs_cons ?_
  refine g_sent KX T B hE F2 N2 I2 lf2 O2 hk3 H2 ?_ ?_ ?_ ?_ (fun d hd => (M2.okD d hd).1) ?_
  · intro j hj
    have h1 := M2.sent j hj
    rw [h1, hseen2, G.seen j hj]
    split
    · simp
    · simp
  · intro j hj
    have h1 := M2.sent j hj
    rw [h1, hseen2, G.seen j hj]
    split
    · simp
    · simp
  · intro j hj
    have h1 := G2.sent j hj
    exact Nat.le_trans h1 (by omega)
  · have h1 := G.log
    have h2 := M2.len
    rw [hlog2]; omega
  intro h3 tk3 m3 Y3 nx3 hz3 F3 N3 I3 lf3 O3
  refine wpAny_execs_cons ?_
  refine g_hold KX T B hE F3 N3 I3 lf3 O3 (fun k hk => (G2.tab k hk).1) G2.times G2.ok (Nat.le_trans G2.log (by omega)) ?_
  intro h4 tk4 m4 nx4 hz4 F4 N4 I4 lf4 O4
  exact wpAny_execs_nil (hk h4 tk4 m4 Y3 _ nx4 F4 N4 I4 G2 lf4 O4)
end
end Mine
namespace Mine
def vecN (l : List Nat) : Nat → Nat := fun i => l.getD i 0
def mkR (w : World) (auto : Int) (nm : Str) (g mg md im di lk sn : Addr) (ol : Obj) (t : Nat → Tok) (t1 t2 t3 : Tok) : List (Addr × Obj) :=
  [(mg, instObj 143 md), (md, mdD w t im nm auto g 0 sn), (im, instObj 66 di), (di, imD w t1 t2 t3 lk auto), (lk, ol), (sn, listOf #[] 0)]
structure MkOk (w : World) (rest : List (Addr × Obj)) (mg md im di lk sn : Addr) (ol : Obj) : Prop where
  dict : ol.IsDictOf (PySem.strKind prg w) []
  ns : (lk == sysModules) = false
  lt : ∀ p ∈ rest, p.1 < md
  o1 : @LT.lt Nat _ md mg
  o2 : @LT.lt Nat _ mg di
  o3 : @LT.lt Nat _ di im
  o4 : @LT.lt Nat _ im lk
  o5 : @LT.lt Nat _ lk sn
section
variable {w : World} {h₀ : Heap} {L fa : Addr} {cd : Value} {mg mb : Str → Option Value} {mean : ExcName → Option Value} {E : Value → Shared → Prop} {Q : Value → Shared → Prop} {s : Shared} {m : Str → Option Value} {rest : List (Addr × Obj)}
variable (KX : (Mine.hd.heap_1 w.params).In h₀) (T : Top viewQ (looseW viewQ []) mean mg mb h₀) (B : Below callerA h₀ [] h₀) (F : Fr h₀ L s.heap m)
include KX T B F
set_option maxHeartbeats 4000000 in
theorem c_mk {auto : Int} {nm : Str} {g : Addr} {ta tn : Tok} (N : News h₀ L s.heap rest)
    (hk : ∀ h' tk mgr md im di lk sn ol t t1 t2 t3, Fr h₀ L h' m → MkOk w rest mgr md im di lk sn ol → News h₀ L h' (mkR w auto nm g mgr md im di lk sn ol t t1 t2 t3 ++ rest) → Q (.ref mgr) { s with heap := h', toks := tk }) :
    wpAny (model prg w) (lawA L fa cd) (call (.ref 143) [.int auto ta, .str nm tn, .ref g] []) Q E s := by
  obtain ⟨heap, gens, drawn, toks, os⟩ := s
  have hMk := kstMark
  dsimp only at F N hk ⊢
  unfold prg at *; revert KX; k_fill; intro KX; w_top off
  k_steps
  rename News h₀ L _ _ => N9
  rename Fr h₀ L _ _ => F9
  rename Obj.IsDictOf (PySem.strKind _ _) _ _ => d9
  refine' hk _ _ _ _ _ _ _ _ _ (vecN [_, _, _, _, _, _, _, _, _, _]) _ _ _ F9 ⟨d9, by assumption, by assumption, ?a1, ?a2, ?a3, ?a4, ?a5⟩ (news_sub N9 ?n)
  case n =>
    unfold mkR
    simp only [List.cons_append, List.nil_append, List.forall_mem_cons]
    refine ⟨by k_mem, ?_, by k_mem, ?_, by k_mem, by k_mem, fun p hp => by k_ownIn⟩
    · k_mem
    · k_mem
  all_goals first | assumption | omega
end
end Mine
namespace Mine
def initS : List Stmt := (lawBody.drop 1).take 2
section
variable {w : World} {h₀ : Heap} {L fa : Addr} {cd : Value} {mg mb : Str → Option Value} {mean : ExcName → Option Value} {E : Value → Shared → Prop} {Q : Flow → Shared → Prop} {s : Shared} {m : Str → Option Value}
variable (KX : (Mine.hd.heap_1 w.params).In h₀) (T : Top viewQ (looseW viewQ []) mean mg mb h₀) (B : Below callerA h₀ [] h₀)
include KX T B
set_option maxHeartbeats 4000000 in
theorem s_init {head : Int} {th : Tok} {oa og : Obj} {ca cg : Option Value}
    (F : Fr h₀ L s.heap m) (hm1 : m (Str.ofString "head") = some (.int head th)) (hoa : oa.data = .cell ca) (hog : og.data = .cell cg)
    (N : News h₀ L s.heap [(L + 1 + 1, og), (L + 1, oa)])
    (hk : ∀ h' tk m' (auto now : Int) nm g gd dr oa' og' ta tg ag n t0 t1 t2, @LT.lt Nat _ (L + 1 + 1) gd → @LT.lt Nat _ gd g → @LT.lt Nat _ g dr → @LT.lt Nat _ dr nm → Fr h₀ L h' m' → (∀ z, List.contains [Str.ofString "names"] z = false → m' z = m z) → m' (Str.ofString "names") = some (.ref nm) → 0 < auto →
      oa'.data = .cell (some (.int auto ta)) → og'.data = .cell (some (.ref g)) →
      News h₀ L h' [(nm, listOf [Value.str (nmS 0) t0, .str (nmS 1) t1, .str (nmS 2) t2].toArray n), (g, instObj 220 gd), (gd, gD w tg ag now), (L + 1 + 1, og'), (L + 1, oa'), (dr, listOf #[] 0)] → Q .next { s with heap := h', toks := tk }) :
    wpAny (model prg w) (lawA L fa cd) (execs initS (lawEnv L fa cd)) Q E s := by
  obtain ⟨heap, gens, drawn, toks, os⟩ := s
  have hps := all1 hm1
  have F0 := fr_known _ hps F
  clear F
  dsimp only at F0 N hk ⊢
  unfold prg at *; revert KX; k_fill; intro KX; w_top off
  have hMk := kstMark
  show wpAny _ _ (execs (_ :: _ :: []) _) _ _ _
  k_steps
  rename News _ _ _ _ => N9
  rename Fr _ _ _ _ => F9
  refine' hk _ _ _ (1 + head.fmod 60) ((head.fdiv 60).fmod 1000) _ _ _ ?dr _ _ _ (vecN [_, _, _, _, _, _, _, _, _, _]) (vecN [?dr, _, _, _]) _ _ _ _ ?l1 ?l2 ?l3 ?l4 F9 ?z rfl ?a ?o1 ?o2 (news_sub N9 ?n)
  case a => have := fmod_lo head (n := 60) (by omega); omega
  case o1 => assumption
  case o2 => assumption
  case z =>
    intro z hz
    simp only [if_neg (ne_of_notin (x := Str.ofString "names") hz (by decide)), kst_back hps]
  case n =>
    simp only [List.forall_mem_cons]
    refine ⟨by k_mem, by k_mem, ?_, by k_mem, by k_mem, ?_, List.forall_mem_nil _⟩
    · k_mem
    · k_mem
  all_goals first | assumption | omega
end
end Mine
namespace Mine
def mgrS : List Stmt := (lawBody.drop 3).take 1
def mgrElt : PySem.Expr := match mgrS with | [.Assign _ (.ListComp e _ _ _) _] => e | _ => default
def mgrScope : Scope := match mgrS with | [.Assign _ (.ListComp _ _ sc _) _] => sc | _ => default
theorem off3_mk {w : World} {I C D mg md im di lk sn g : Addr} {oI oC oD ol : Obj} {auto : Int} {nm : Str} {t : Nat → Tok} {t1 t2 t3 : Tok} {news : List (Addr × Obj)} (K : MkOk w ((I, oI) :: (C, oC) :: (D, oD) :: news) mg md im di lk sn ol)
    (ho : LCg.Off3 I C D news) : LCg.Off3 I C D (mkR w auto nm g mg md im di lk sn ol t t1 t2 t3 ++ news) := by
  refine LCg.Off3.of fun p hp => ?_
  rcases List.mem_append.mp hp with hp | hp
  · have hI : @LT.lt Nat _ I md := K.lt (I, oI) (by simp)
    have hC : @LT.lt Nat _ C md := K.lt (C, oC) (by simp)
    have hD : @LT.lt Nat _ D md := K.lt (D, oD) (by simp)
    have o1 := K.o1
    have o2 := K.o2
    have o3 := K.o3
    have o4 := K.o4
    have o5 := K.o5
    have hge : @LE.le Nat _ md p.1 := by
      simp only [mkR, List.mem_cons, List.not_mem_nil, or_false] at hp
      rcases hp with rfl | rfl | rfl | rfl | rfl | rfl <;> dsimp only <;> omega
    exact ⟨Nat.ne_of_gt (Nat.lt_of_lt_of_le hI hge), Nat.ne_of_gt (Nat.lt_of_lt_of_le hC hge), Nat.ne_of_gt (Nat.lt_of_lt_of_le hD hge)⟩
  · exact ho.mem p hp
theorem off1_mem {D : Addr} : ∀ {l : List (Addr × Obj)}, LCg.Off1 D l → ∀ p ∈ l, p.1 ≠ D
  | [], _, _, h => nomatch h
  | _ :: _, x, p, h => by
    rcases List.mem_cons.mp h with rfl | h
    · exact x.1
    · exact off1_mem x.2 p h
theorem sub_mk {I C D : Addr × Obj} {R news : List (Addr × Obj)} : ∀ p ∈ I :: C :: D :: (R ++ news), p ∈ R ++ I :: C :: D :: news := by
  intro p hp
  simp only [List.mem_cons, List.mem_append] at hp ⊢
  rcases hp with h | h | h | h | h
  · exact .inr (.inl h)
  · exact .inr (.inr (.inl h))
  · exact .inr (.inr (.inr (.inl h)))
  · exact .inl h
  · exact .inr (.inr (.inr (.inr h)))
set_option hygiene false in
local macro_rules | `(tactic| walk_at "call ref") => `(tactic| (k_here; (with_reducible show wpAny _ _ (call (Value.ref 143) _ _) _ _ _); k_dflt (refine' c_mk ?KX ?T ?B ?F ?N ?_; (case KX => k_asm); (case T => k_asm); (case B => k_asm); (case F => k_asm); (case N => k_asm)); refine stop_intro ?_))
section
variable {w : World} {h₀ : Heap} {L fa : Addr} {cd : Value} {mg mb : Str → Option Value} {mean : ExcName → Option Value} {E : Value → Shared → Prop} {s : Shared} {m : Str → Option Value}
variable (KX : (Mine.hd.heap_1 w.params).In h₀) (T : Top viewQ (looseW viewQ []) mean mg mb h₀) (B : Below callerA h₀ [] h₀)
include KX T B
set_option maxHeartbeats 4000000 in
theorem s_elt {Q : Value → Shared → Prop} {auto : Int} {g : Addr} {oa og : Obj} {ta tn : Tok} {I C D : Addr} {oI oC oD : Obj} {nm : Str} {m₂ : Str → Option Value} {R : List (Addr × Obj)}
    (F : Fr h₀ L s.heap m) (N : News h₀ L s.heap ((I, oI) :: (C, oC) :: (D, oD) :: R)) (ho : (L + 1, oa) ∈ R) (hg : (L + 1 + 1, og) ∈ R) (hC : LCg.NsObj oC m₂) (hx : m₂ (Str.ofString "name") = some (.str nm tn)) (hoa : oa.data = .cell (some (.int auto ta))) (hog : og.data = .cell (some (.ref g)))
    (hk : ∀ h' tk mgr md im di lk sn ol t t1 t2 t3, Fr h₀ L h' m → MkOk w ((I, oI) :: (C, oC) :: (D, oD) :: R) mgr md im di lk sn ol → News h₀ L h' (mkR w auto nm g mgr md im di lk sn ol t t1 t2 t3 ++ ((I, oI) :: (C, oC) :: (D, oD) :: R)) → Q (.ref mgr) { s with heap := h', toks := tk }) :
    wpAny (model prg w) (lawA L fa cd) (eval mgrElt (compEnvC mgrScope [(Str.ofString "given", L + 1 + 1), (Str.ofString "auto", L + 1)] C (lawEnv L fa cd))) Q E s := by
  obtain ⟨heap, gens, drawn, toks, os⟩ := s
  dsimp only at F N hk ⊢
  unfold prg at *; revert KX; k_fill; intro KX; w_top off
  have hMk := kstMark
  have N2 : News h₀ L heap ((I, oI) :: (C, oC) :: (D, oD) :: (L + 1 + 1, og) :: (L + 1, oa) :: R) := news_sub N (by
    simp only [List.forall_mem_cons]
    exact ⟨by k_mem, by k_mem, by k_mem, .tail _ (.tail _ (.tail _ hg)), .tail _ (.tail _ (.tail _ ho)), fun p hp => .tail _ (.tail _ (.tail _ hp))⟩)
  show wpAny _ _ (eval (.Call _ _ _ _) _) _ _ _
  k_steps
  unfold Stop
  intro h' tk mgr md im di lk sn ol t t1 t2 t3 F' K' N'
  have hin : ∀ p ∈ (I, oI) :: (C, oC) :: (D, oD) :: R, p ∈ (I, oI) :: (C, oC) :: (D, oD) :: (L + 1 + 1, og) :: (L + 1, oa) :: R := by
    intro p hp
    simp only [List.mem_cons] at hp ⊢
    rcases hp with h | h | h | h
    · exact .inl h
    · exact .inr (.inl h)
    · exact .inr (.inr (.inl h))
    · exact .inr (.inr (.inr (.inr (.inr h))))
  refine hk h' tk mgr md im di lk sn ol t t1 t2 t3 F' ⟨K'.dict, K'.ns, fun p hp => K'.lt p (hin p hp), K'.o1, K'.o2, K'.o3, K'.o4, K'.o5⟩ (news_sub N' fun p hp => ?_)
  rcases List.mem_append.mp hp with hp | hp
  · exact List.mem_append.mpr (.inl hp)
  · exact List.mem_append.mpr (.inr (hin p hp))
omit KX T B in
theorem mem_mk {R base : List (Addr × Obj)} {p : Addr × Obj} (h : p ∈ base) : p ∈ R ++ base := List.mem_append.mpr (.inr h)
theorem s_rest {auto : Int} {g nm : Addr} {oa og : Obj} {ta : Tok} {n : Nat} {t0 t1 t2 : Tok} {base : List (Addr × Obj)} {Fin : List Value → List (Addr × Obj) → Prop}
    (hl : (nm, listOf [Value.str (nmS 0) t0, .str (nmS 1) t1, .str (nmS 2) t2].toArray n) ∈ base) (ho : (L + 1, oa) ∈ base) (hg : (L + 1 + 1, og) ∈ base) (hoa : oa.data = .cell (some (.int auto ta))) (hog : og.data = .cell (some (.ref g)))
    (fin : ∀ mg0 md0 im0 di0 lk0 sn0 ol0 a0 b0 c0 d0 mg1 md1 im1 di1 lk1 sn1 ol1 a1 b1 c1 d1 mg2 md2 im2 di2 lk2 sn2 ol2 a2 b2 c2 d2,
      MkOk w base mg0 md0 im0 di0 lk0 sn0 ol0 → MkOk w (mkR w auto (nmS 0) g mg0 md0 im0 di0 lk0 sn0 ol0 a0 b0 c0 d0 ++ base) mg1 md1 im1 di1 lk1 sn1 ol1 → MkOk w (mkR w auto (nmS 1) g mg1 md1 im1 di1 lk1 sn1 ol1 a1 b1 c1 d1 ++ (mkR w auto (nmS 0) g mg0 md0 im0 di0 lk0 sn0 ol0 a0 b0 c0 d0 ++ base)) mg2 md2 im2 di2 lk2 sn2 ol2 →
      Fin [.ref mg0, .ref mg1, .ref mg2] (mkR w auto (nmS 2) g mg2 md2 im2 di2 lk2 sn2 ol2 a2 b2 c2 d2 ++ (mkR w auto (nmS 1) g mg1 md1 im1 di1 lk1 sn1 ol1 a1 b1 c1 d1 ++ (mkR w auto (nmS 0) g mg0 md0 im0 di0 lk0 sn0 ol0 a0 b0 c0 d0 ++ base)))) :
    LCg.CompRest prg w (lawA L fa cd) h₀ L m (lawEnv L fa cd) mgrElt (Str.ofString "name") mgrScope [(Str.ofString "given", L + 1 + 1), (Str.ofString "auto", L + 1)] s (LCg.SrcAt h₀ nm #[Value.str (nmS 0) t0, .str (nmS 1) t1, .str (nmS 2) t2])
      (fun i v => #[Value.str (nmS 0) t0, .str (nmS 1) t1, .str (nmS 2) t2][i]? = some v) Fin 3 0 [] base := by
  have cut : ∀ {I C D : Addr} {oI oC oD : Obj} {R : List (Addr × Obj)} {mg md im di lk sn ol}, MkOk w ((I, oI) :: (C, oC) :: (D, oD) :: R) mg md im di lk sn ol → MkOk w R mg md im di lk sn ol := fun K => ⟨K.dict, K.ns, fun p hp => K.lt p (.tail _ (.tail _ (.tail _ hp))), K.o1, K.o2, K.o3, K.o4, K.o5⟩
  refine LCg.CompRest.succ ?_
  intro v I oI C oC D m₂ h tk E' hv hC hx F N off ne
  obtain rfl := Option.some.inj hv
  refine s_elt (s := { s with heap := h, toks := tk }) KX T B F N ho hg hC hx hoa hog ?_
  intro h' tk' mg0 md0 im0 di0 lk0 sn0 ol0 a0 b0 c0 d0 F' K0 N'
  refine LCg.CompEnd.intro F' N' _ sub_mk (off3_mk K0 off) (.inr ⟨_, mem_mk hl, rfl, _, rfl⟩) ?_
  refine LCg.CompRest.succ ?_
  clear hv hC hx F N off ne F' N'
  intro v I oI C oC D m₂ h tk E' hv hC hx F N off ne
  obtain rfl := Option.some.inj hv
  refine s_elt (s := { s with heap := h, toks := tk }) KX T B F N (mem_mk ho) (mem_mk hg) hC hx hoa hog ?_
  intro h' tk' mg1 md1 im1 di1 lk1 sn1 ol1 a1 b1 c1 d1 F' K1 N'
  refine LCg.CompEnd.intro F' N' _ sub_mk (off3_mk K1 off) (.inr ⟨_, mem_mk (mem_mk hl), rfl, _, rfl⟩) ?_
  refine LCg.CompRest.succ ?_
  clear hv hC hx F N off ne F' N'
  intro v I oI C oC D m₂ h tk E' hv hC hx F N off ne
  obtain rfl := Option.some.inj hv
  refine s_elt (s := { s with heap := h, toks := tk }) KX T B F N (mem_mk (mem_mk ho)) (mem_mk (mem_mk hg)) hC hx hoa hog ?_
  intro h' tk' mg2 md2 im2 di2 lk2 sn2 ol2 a2 b2 c2 d2 F' K2 N'
  refine LCg.CompEnd.intro F' N' _ sub_mk (off3_mk K2 off) (.inr ⟨_, mem_mk (mem_mk (mem_mk hl)), rfl, _, rfl⟩) ?_
  exact fin _ _ _ _ _ _ _ _ _ _ _ _ _ _ _ _ _ _ _ _ _ _ _ _ _ _ _ _ _ _ _ _ _ (cut K0) (cut K1) (cut K2)
local macro_rules | `(tactic| walk_at "CompRest") => `(tactic| refine stop_intro ?_)
set_option maxHeartbeats 4000000 in
theorem s_mgrs {Q : Flow → Shared → Prop} {auto : Int} {nm g : Addr} {oa og : Obj} {ta : Tok} {n : Nat} {t0 t1 t2 : Tok} {base : List (Addr × Obj)}
    (F : Fr h₀ L s.heap m) (hm1 : m (Str.ofString "names") = some (.ref nm)) (hoa : oa.data = .cell (some (.int auto ta))) (hog : og.data = .cell (some (.ref g)))
    (N : News h₀ L s.heap ((nm, listOf [Value.str (nmS 0) t0, .str (nmS 1) t1, .str (nmS 2) t2].toArray n) :: base)) (ho : (L + 1, oa) ∈ (nm, listOf [Value.str (nmS 0) t0, .str (nmS 1) t1, .str (nmS 2) t2].toArray n) :: base) (hg : (L + 1 + 1, og) ∈ (nm, listOf [Value.str (nmS 0) t0, .str (nmS 1) t1, .str (nmS 2) t2].toArray n) :: base)
    (hk : ∀ h' tk m' ml c mg0 md0 im0 di0 lk0 sn0 ol0 a0 b0 c0 d0 mg1 md1 im1 di1 lk1 sn1 ol1 a1 b1 c1 d1 mg2 md2 im2 di2 lk2 sn2 ol2 a2 b2 c2 d2,
      MkOk w ((nm, listOf [Value.str (nmS 0) t0, .str (nmS 1) t1, .str (nmS 2) t2].toArray n) :: base) mg0 md0 im0 di0 lk0 sn0 ol0 → MkOk w (mkR w auto (nmS 0) g mg0 md0 im0 di0 lk0 sn0 ol0 a0 b0 c0 d0 ++ ((nm, listOf [Value.str (nmS 0) t0, .str (nmS 1) t1, .str (nmS 2) t2].toArray n) :: base)) mg1 md1 im1 di1 lk1 sn1 ol1 → MkOk w (mkR w auto (nmS 1) g mg1 md1 im1 di1 lk1 sn1 ol1 a1 b1 c1 d1 ++ (mkR w auto (nmS 0) g mg0 md0 im0 di0 lk0 sn0 ol0 a0 b0 c0 d0 ++ ((nm, listOf [Value.str (nmS 0) t0, .str (nmS 1) t1, .str (nmS 2) t2].toArray n) :: base))) mg2 md2 im2 di2 lk2 sn2 ol2 →
      Fr h₀ L h' m' → (∀ z, List.contains [Str.ofString "managers"] z = false → m' z = m z) → m' (Str.ofString "managers") = some (.ref ml) →
      News h₀ L h' ((ml, listOf [Value.ref mg0, .ref mg1, .ref mg2].toArray c) :: (mkR w auto (nmS 2) g mg2 md2 im2 di2 lk2 sn2 ol2 a2 b2 c2 d2 ++ (mkR w auto (nmS 1) g mg1 md1 im1 di1 lk1 sn1 ol1 a1 b1 c1 d1 ++ (mkR w auto (nmS 0) g mg0 md0 im0 di0 lk0 sn0 ol0 a0 b0 c0 d0 ++ ((nm, listOf [Value.str (nmS 0) t0, .str (nmS 1) t1, .str (nmS 2) t2].toArray n) :: base))))) →
      (∀ p ∈ mkR w auto (nmS 2) g mg2 md2 im2 di2 lk2 sn2 ol2 a2 b2 c2 d2 ++ (mkR w auto (nmS 1) g mg1 md1 im1 di1 lk1 sn1 ol1 a1 b1 c1 d1 ++ (mkR w auto (nmS 0) g mg0 md0 im0 di0 lk0 sn0 ol0 a0 b0 c0 d0 ++ ((nm, listOf [Value.str (nmS 0) t0, .str (nmS 1) t1, .str (nmS 2) t2].toArray n) :: base))), p.1 ≠ ml) → Q .next { s with heap := h', toks := tk }) :
    wpAny (model prg w) (lawA L fa cd) (execs mgrS (lawEnv L fa cd)) Q E s := by
  obtain ⟨heap, gens, drawn, toks, os⟩ := s
  have hps := all1 hm1
  have F0 := fr_known _ hps F
  clear F
  dsimp only at F0 N hk ⊢
  have KX' := KX
  unfold prg at *; revert KX; k_fill; intro KX; w_top off
  have hMk := kstMark
  show wpAny _ _ (execs (_ :: []) _) _ _ _
  k_steps
  unfold Stop
  refine s_rest KX' T B (g := g) (auto := auto) (.head _) ho hg hoa hog ?_
  intro mg0 md0 im0 di0 lk0 sn0 ol0 a0 b0 c0 d0 mg1 md1 im1 di1 lk1 sn1 ol1 a1 b1 c1 d1 mg2 md2 im2 di2 lk2 sn2 ol2 a2 b2 c2 d2 K0 K1 K2
  intro D' h' tk' F' N' o1'
  refine wpAny_execs_nil (hk _ _ _ _ _ _ _ _ _ _ _ _ _ _ _ _ _ _ _ _ _ _ _ _ _ _ _ _ _ _ _ _ _ _ _ _ _ _ K0 K1 K2 F' ?_ rfl N' (off1_mem o1'))
  intro z hz
  simp only [if_neg (ne_of_notin (x := Str.ofString "managers") hz (by decide)), kst_back hps]
end
end Mine
namespace Mine
def tabS : List Stmt := (lawBody.drop 4).take 1
abbrev tabN : List Str := [Str.ofString "tables", Str.ofString "log", Str.ofString "done", Str.ofString "rounds", Str.ofString "seen"]
local macro_rules | `(tactic| walk_at "eval Dict nil nil") => `(tactic| (k_here; with_reducible refine' newDict_K ?k1 ?k2 (TopRead.nolimit (by k_asm)) ?_; (case k1 => k_asm); (case k2 => k_asm); intro d' h' o' F' N' l1 lo' hs' fs' hi' fi'; (try k_lt l1); (try k_sweep)))
structure TbOk (w : World) (rest : List (Addr × Obj)) (tb0 tb1 tb2 tl lg dn rd se : Addr) (o0 o1 o2 : Obj) : Prop where
  i0 : o0.IsDictOf (PySem.strKind prg w) []
  i1 : o1.IsDictOf (PySem.strKind prg w) []
  i2 : o2.IsDictOf (PySem.strKind prg w) []
  j0 : (tb0 == sysModules) = false
  j1 : (tb1 == sysModules) = false
  j2 : (tb2 == sysModules) = false
  k0 : ∀ p ∈ rest, p.1 < tb0
  k1 : @LT.lt Nat _ tb0 tb1
  k2 : @LT.lt Nat _ tb1 tb2
  k3 : @LT.lt Nat _ tb2 tl
  k4 : @LT.lt Nat _ tl lg
  k5 : @LT.lt Nat _ lg dn
  k6 : @LT.lt Nat _ dn rd
  k7 : @LT.lt Nat _ rd se
section
variable {w : World} {h₀ : Heap} {L fa : Addr} {cd : Value} {mg mb : Str → Option Value} {mean : ExcName → Option Value} {E : Value → Shared → Prop} {Q : Flow → Shared → Prop} {s : Shared} {m : Str → Option Value} {rest : List (Addr × Obj)}
variable (KX : (Mine.hd.heap_1 w.params).In h₀) (T : Top viewQ (looseW viewQ []) mean mg mb h₀) (B : Below callerA h₀ [] h₀)
include KX T B
set_option maxHeartbeats 4000000 in
theorem s_tabs (F : Fr h₀ L s.heap m) (N : News h₀ L s.heap rest)
    (hk : ∀ h' tk m' tb0 tb1 tb2 tl lg dn rd se o0 o1 o2 c d d0 d1 d2 r r0 r1 r2 e e0 e1 e2 f, Fr h₀ L h' m' → (∀ z, List.contains tabN z = false → m' z = m z) → m' (Str.ofString "tables") = some (.ref tl) → m' (Str.ofString "log") = some (.ref lg) → m' (Str.ofString "done") = some (.ref dn) → m' (Str.ofString "rounds") = some (.ref rd) → m' (Str.ofString "seen") = some (.ref se) →
      News h₀ L h' ((tl, listOf [Value.ref tb0, .ref tb1, .ref tb2].toArray c) :: (tb0, o0) :: (tb1, o1) :: (tb2, o2) :: (lg, listOf #[] f) :: (dn, listOf [Value.int 0 d0, .int 0 d1, .int 0 d2].toArray d) :: (rd, listOf [Value.int 0 r0, .int 0 r1, .int 0 r2].toArray r) :: (se, listOf [Value.int 0 e0, .int 0 e1, .int 0 e2].toArray e) :: rest) →
      TbOk w rest tb0 tb1 tb2 tl lg dn rd se o0 o1 o2 → Q .next { s with heap := h', toks := tk }) :
    wpAny (model prg w) (lawA L fa cd) (execs tabS (lawEnv L fa cd)) Q E s := by
  obtain ⟨heap, gens, drawn, toks, os⟩ := s
  dsimp only at F N hk ⊢
  unfold prg at *; revert KX; k_fill; intro KX; w_top off
  have hMk := kstMark
  show wpAny _ _ (execs (_ :: []) _) _ _ _
  k_steps
  rename News _ _ _ _ => N9
  rename Fr _ _ _ _ => F9
  refine' hk _ _ _ _ _ _ _ _ _ _ _ _ _ _ _ _ _ _ _ _ _ _ _ _ _ _ _ _ F9 ?z rfl rfl rfl rfl rfl (news_sub N9 ?n) ⟨?i0, ?i1, ?i2, ?j0, ?j1, ?j2, ?k0, ?k1, ?k2, ?k3, ?k4, ?k5, ?k6, ?k7⟩
  case n =>
    simp only [List.forall_mem_cons]
    refine ⟨by k_mem, by k_mem, by k_mem, by k_mem, by k_mem, by k_mem, by k_mem, by k_mem, fun p hp => by k_ownIn⟩
  case z =>
    intro z hz
    simp only [if_neg (ne_of_notin (x := Str.ofString "tables") hz (by decide)), if_neg (ne_of_notin (x := Str.ofString "log") hz (by decide)), if_neg (ne_of_notin (x := Str.ofString "done") hz (by decide)), if_neg (ne_of_notin (x := Str.ofString "rounds") hz (by decide)), if_neg (ne_of_notin (x := Str.ofString "seen") hz (by decide))]
  all_goals first | assumption | omega
end
end Mine
namespace Mine
def forT : Stmt := match lawBody with | [_, _, _, _, _, s, _] => s | _ => .Pass default
local macro_rules | `(tactic| walk_at "exec For Name Subscript cons nil") => `(tactic| (k_here; (rename Fr _ _ _ _ => lF'); (with_unfolding_all refine' For_invVF lF' ?k1 ?k2 ?_ (hE := by assumption); (case k1 => exact rfl); (case k2 => exact rfl); k_whole)))
def JT (w : World) (L : Addr) (_ : Str → Option Value) (i : Nat) (m₁ : Str → Option Value) (nx : List (Addr × Obj)) : Prop := ∃ Y σ, Inv w L Y σ nx ∧ Good σ i ∧ LF Y m₁
set_option hygiene false in
local macro_rules | `(tactic| walk_at "pyIter ref") => `(tactic| ((rename Fr _ _ _ _ => F9); (rename News _ _ _ _ => N9); (refine stop_intro ?_)))
section
variable {w : World} {h₀ : Heap} {L fa : Addr} {cd : Value} {mg mb : Str → Option Value} {mean : ExcName → Option Value} {E : Value → Shared → Prop} {Q : Flow → Shared → Prop} {s : Shared} {m : Str → Option Value}
  {Y : SK → Addr} {σ : St} {nx : List (Addr × Obj)}
variable (KX : (Mine.hd.heap_1 w.params).In h₀) (T : Top viewQ (looseW viewQ []) mean mg mb h₀) (B : Below callerA h₀ [] h₀)
  (hE : PassesOwn (model prg w) (lawA L fa cd) (lawEnv L fa cd) E)
include KX T B hE
set_option maxHeartbeats 4000000 in
theorem s_loop {sc : Addr} {vals : List Value} {ns : List Int} (F : Fr h₀ L s.heap m) (N : News h₀ L s.heap nx) (I : Inv w L Y σ nx) (lf : LF Y m) (G : Good σ 0)
    (hm : m (Str.ofString "script") = some (.ref sc)) (hL : h₀.IsList sc vals.toArray) (hI : IntsAre vals ns) (hlen : ns.length ≤ 63) 
    (hk : ∀ h' tk m' nx', Fr h₀ L h' m' → News h₀ L h' nx' → Q .next { s with heap := h', toks := tk }) :
    wpAny (model prg w) (lawA L fa cd) (exec forT (lawEnv L fa cd)) Q E s := by
  obtain ⟨heap, gens, drawn, toks, os⟩ := s
  have hps := all1 hm
  have F0 := fr_known _ hps F
  clear F
  dsimp only at F0 N hk ⊢
  have KX' := KX
  unfold prg at *; revert KX; k_fill; intro KX; w_top off
  have hMk := kstMark
  show wpAny _ _ (exec (.For _ _ _ _ _) _) _ _ _
  k_steps
  unfold Stop
  rename List Value => ws9
  rename IntsAre ws9 _ => hI9
  have hlen9 : ws9.length ≤ 24 := by
    have h1 := hI9.length
    have h2 := List.length_take_le (min 25 ns.length - 1) (List.drop 1 ns)
    rw [h1]; omega
  refine my_iterM (JT w L) (by rfl) (fr_back hps F9) N9 ?off nx (fun p hp => hp) ⟨Y, σ, I, G, lf⟩ ?_ ?_
  case off => (refine fun p hp => Nat.ne_of_lt ?_); revert p; assumption
  · rintro i v m₁ nx₁ h tk own hv hnt hoff ⟨Y₁, σ₁, I₁, G₁, lf₁⟩ F₁ N₁
    obtain ⟨n, t, rfl, -⟩ := hI9.at i v hv
    have hi : i < 24 := by
      rcases Nat.lt_or_ge i ws9.length with q | q
      · omega
      · rw [List.getElem?_eq_none q] at hv; cases hv
    have hsub' : ∀ p ∈ nx₁, p ∈ nx₁ ++ own := fun p hp => List.mem_append_left _ hp
    have O₁ : Own Y₁ [] nx₁ := fun _ h => nomatch h
    refine g_turn KX' T B hE F₁ N₁ (I₁.sub hsub') (lf₁.keep [Str.ofString "number"] (fun z hz => if_neg (ne_of_notin (x := Str.ofString "number") hz (by decide))) (by decide)) (own_in I₁ O₁ hoff) (number := n) (tn := t) (if_pos rfl) G₁ hi ?_
    intro h2 tk2 m2 Y2 σ2 nx2 F2 N2 I2 G2 lf2 O2
    exact turn_out F2 N2 I2 O2 hnt (fun p hp => nomatch hp) fun I3 _ _ => ⟨Y2, σ2, I3, G2, lf2⟩
  · rintro m₁ nx₁ h tk - F₁ N₁
    exact hk h tk m₁ nx₁ F₁ N₁
end
end Mine
namespace Mine
def Inc : List Nat → Prop
  | a :: b :: r => a < b ∧ Inc (b :: r)
  | _ => True
theorem inc_lt : ∀ {l : List Nat} {a : Nat}, Inc (a :: l) → ∀ x ∈ l, a < x
  | [], _, _, _, h => nomatch h
  | b :: r, a, h, x, hx => by
    rcases List.mem_cons.mp hx with rfl | hx
    · exact h.1
    · exact Nat.lt_trans h.1 (inc_lt h.2 x hx)
theorem inc_tail {a : Nat} : ∀ {l : List Nat}, Inc (a :: l) → Inc l
  | [], _ => trivial
  | _ :: _, h => h.2
theorem inc_nodup : ∀ {l : List Nat}, Inc l → l.Nodup
  | [], _ => .nil
  | _ :: _, h => List.nodup_cons.mpr ⟨fun hm => Nat.lt_irrefl _ (inc_lt h _ hm), inc_nodup (inc_tail h)⟩
def slots : List SK := [.ml, .ca, .cg, .gd, .g, .du, .nm, .md 0, .mg 0, .di 0, .im 0, .lk 0, .sn 0, .md 1, .mg 1, .di 1, .im 1, .lk 1, .sn 1, .md 2, .mg 2, .di 2, .im 2, .lk 2, .sn 2, .tb 0, .tb 1, .tb 2, .tl, .lg, .dn, .rd, .se]
def idx : SK → Nat
  | .ml => 0 | .ca => 1 | .cg => 2 | .gd => 3 | .g => 4 | .du => 5 | .nm => 6
  | .md k => 7 + 6 * k | .mg k => 8 + 6 * k | .di k => 9 + 6 * k | .im k => 10 + 6 * k | .lk k => 11 + 6 * k | .sn k => 12 + 6 * k
  | .tb k => 25 + k | .tl => 28 | .lg => 29 | .dn => 30 | .rd => 31 | .se => 32
theorem three {P : Nat → Prop} (h0 : P 0) (h1 : P 1) (h2 : P 2) : ∀ k, k < 3 → P k
  | 0, _ => h0
  | 1, _ => h1
  | 2, _ => h2
  | k + 3, h => absurd h (by omega)
theorem all_ok {P : SK → Prop} (h : ∀ s ∈ slots, P s) : ∀ s, s.ok → P s := by
  simp only [slots, List.forall_mem_cons, List.not_mem_nil, false_implies, implies_true, and_true] at h
  obtain ⟨a1, a2, a3, a4, a5, a6, a7, b1, b2, b3, b4, b5, b6, c1, c2, c3, c4, c5, c6, d1, d2, d3, d4, d5, d6, e1, e2, e3, f1, f2, f3, f4, f5⟩ := h
  intro s hs
  cases s with
  | ml => exact a1
  | ca => exact a2
  | cg => exact a3
  | gd => exact a4
  | g => exact a5
  | du => exact a6
  | nm => exact a7
  | md k => exact three (P := fun k => P (.md k)) b1 c1 d1 k hs
  | mg k => exact three (P := fun k => P (.mg k)) b2 c2 d2 k hs
  | di k => exact three (P := fun k => P (.di k)) b3 c3 d3 k hs
  | im k => exact three (P := fun k => P (.im k)) b4 c4 d4 k hs
  | lk k => exact three (P := fun k => P (.lk k)) b5 c5 d5 k hs
  | sn k => exact three (P := fun k => P (.sn k)) b6 c6 d6 k hs
  | tb k => exact three (P := fun k => P (.tb k)) e1 e2 e3 k hs
  | tl => exact f1
  | lg => exact f2
  | dn => exact f3
  | rd => exact f4
  | se => exact f5
theorem idx_slots : ∀ s, s.ok → slots[idx s]? = some s := all_ok (by decide)
theorem addr_inj {l : List Nat} (hn : l.Nodup) (hl : l.length = 33) {a b : SK} (ha : a.ok) (hb : b.ok) (e : l.getD (idx a) 0 = l.getD (idx b) 0) : a = b := by
  have h1 := idx_slots a ha
  have h2 := idx_slots b hb
  have i1 : idx a < l.length := by
    rcases Nat.lt_or_ge (idx a) 33 with q | q
    · omega
    · rw [List.getElem?_eq_none (by exact q)] at h1; cases h1
  have i2 : idx b < l.length := by
    rcases Nat.lt_or_ge (idx b) 33 with q | q
    · omega
    · rw [List.getElem?_eq_none (by exact q)] at h2; cases h2
  rw [List.getD_eq_getElem?_getD, List.getD_eq_getElem?_getD, List.getElem?_eq_getElem i1, List.getElem?_eq_getElem i2] at e
  have := (List.getElem_inj (h₀ := i1) (h₁ := i2) hn).mp e
  rw [this, h2] at h1
  exact (Option.some.inj h1).symm
theorem dt_empty {w : World} {nx : List (Addr × Obj)} {o : Obj} (h : o.IsDictOf (PySem.strKind prg w) []) : DictTab w nx o tab0 := ⟨[], h, fun _ => rfl, fun _ h => nomatch h⟩
end Mine
namespace Mine
def σ0 (auto now : Int) : St := ⟨auto, now, fun _ => 0, fun _ => tab0, fun _ => [], fun _ => 0, fun _ => 0, [], []⟩
theorem good0 {auto now : Int} (h : 0 < auto) : Good (σ0 auto now) 0 :=
  ⟨h, fun _ _ => ⟨rfl, Nat.le_refl _⟩, fun _ _ => rfl, fun _ _ => Nat.le_refl _, Nat.le_refl _, fun _ h => (nomatch h), .nil, fun _ h => (nomatch h)⟩
theorem inv_init {w : World} {L : Addr} {m : Str → Option Value} {auto now : Int} {nm g gd dr ml : Addr} {oa og : Obj} {ta : Tok} {tg ag : Nat → Nat} {n c : Nat} {t0 t1 t2 : Tok}
    {mg0 md0 im0 di0 lk0 sn0 mg1 md1 im1 di1 lk1 sn1 mg2 md2 im2 di2 lk2 sn2 : Addr} {ol0 ol1 ol2 : Obj} {a0 a1 a2 : Nat → Tok} {b0 c0 d0 b1 c1 d1 b2 c2 d2 : Tok}
    {tb0 tb1 tb2 tl lg dn rd se : Addr} {o0 o1 o2 : Obj} {x1 x2 x3 x4 x5 : Nat} {p0 p1 p2 q0 q1 q2 r0 r1 r2 : Tok} {rest nx : List (Addr × Obj)}
    (h1 : @LT.lt Nat _ (L + 1 + 1) gd) (h2 : @LT.lt Nat _ gd g) (h3 : @LT.lt Nat _ g dr) (h4 : @LT.lt Nat _ dr nm)
    (hoa : oa.data = .cell (some (.int auto ta))) (hog : og.data = .cell (some (.ref g)))
    (K0 : MkOk w ((nm, listOf [Value.str (nmS 0) t0, .str (nmS 1) t1, .str (nmS 2) t2].toArray n) :: [(g, instObj 220 gd), (gd, gD w tg ag now), (L + 1 + 1, og), (L + 1, oa), (dr, listOf #[] 0)]) mg0 md0 im0 di0 lk0 sn0 ol0)
    (K1 : MkOk w (mkR w auto (nmS 0) g mg0 md0 im0 di0 lk0 sn0 ol0 a0 b0 c0 d0 ++ ((nm, listOf [Value.str (nmS 0) t0, .str (nmS 1) t1, .str (nmS 2) t2].toArray n) :: [(g, instObj 220 gd), (gd, gD w tg ag now), (L + 1 + 1, og), (L + 1, oa), (dr, listOf #[] 0)])) mg1 md1 im1 di1 lk1 sn1 ol1)
    (K2 : MkOk w (mkR w auto (nmS 1) g mg1 md1 im1 di1 lk1 sn1 ol1 a1 b1 c1 d1 ++ (mkR w auto (nmS 0) g mg0 md0 im0 di0 lk0 sn0 ol0 a0 b0 c0 d0 ++ ((nm, listOf [Value.str (nmS 0) t0, .str (nmS 1) t1, .str (nmS 2) t2].toArray n) :: [(g, instObj 220 gd), (gd, gD w tg ag now), (L + 1 + 1, og), (L + 1, oa), (dr, listOf #[] 0)]))) mg2 md2 im2 di2 lk2 sn2 ol2)
    (hr : rest = mkR w auto (nmS 2) g mg2 md2 im2 di2 lk2 sn2 ol2 a2 b2 c2 d2 ++ (mkR w auto (nmS 1) g mg1 md1 im1 di1 lk1 sn1 ol1 a1 b1 c1 d1 ++ (mkR w auto (nmS 0) g mg0 md0 im0 di0 lk0 sn0 ol0 a0 b0 c0 d0 ++ ((nm, listOf [Value.str (nmS 0) t0, .str (nmS 1) t1, .str (nmS 2) t2].toArray n) :: [(g, instObj 220 gd), (gd, gD w tg ag now), (L + 1 + 1, og), (L + 1, oa), (dr, listOf #[] 0)]))))
    (hml : ∀ p ∈ rest, p.1 ≠ ml)
    (hnx : nx = (tl, listOf [Value.ref tb0, .ref tb1, .ref tb2].toArray x1) :: (tb0, o0) :: (tb1, o1) :: (tb2, o2) :: (lg, listOf #[] x2) :: (dn, listOf [Value.int 0 p0, .int 0 p1, .int 0 p2].toArray x3) :: (rd, listOf [Value.int 0 q0, .int 0 q1, .int 0 q2].toArray x4) :: (se, listOf [Value.int 0 r0, .int 0 r1, .int 0 r2].toArray x5) :: (ml, listOf [Value.ref mg0, .ref mg1, .ref mg2].toArray c) :: rest)
    (K : TbOk w ((ml, listOf [Value.ref mg0, .ref mg1, .ref mg2].toArray c) :: rest) tb0 tb1 tb2 tl lg dn rd se o0 o1 o2)
    (f1 : m (Str.ofString "managers") = some (.ref ml)) (f2 : m (Str.ofString "tables") = some (.ref tl)) (f3 : m (Str.ofString "names") = some (.ref nm)) (f4 : m (Str.ofString "done") = some (.ref dn)) (f5 : m (Str.ofString "rounds") = some (.ref rd)) (f6 : m (Str.ofString "seen") = some (.ref se)) (f7 : m (Str.ofString "log") = some (.ref lg)) :
    ∃ Y, Inv w L Y (σ0 auto now) nx ∧ LF Y m := by
  subst hr
  obtain ⟨i0, i1, i2, j0, j1, j2, k0, k1, k2, k3, k4, k5, k6, k7⟩ := K
  have hin : ∀ p ∈ mkR w auto (nmS 2) g mg2 md2 im2 di2 lk2 sn2 ol2 a2 b2 c2 d2 ++ (mkR w auto (nmS 1) g mg1 md1 im1 di1 lk1 sn1 ol1 a1 b1 c1 d1 ++ (mkR w auto (nmS 0) g mg0 md0 im0 di0 lk0 sn0 ol0 a0 b0 c0 d0 ++ ((nm, listOf [Value.str (nmS 0) t0, .str (nmS 1) t1, .str (nmS 2) t2].toArray n) :: [(g, instObj 220 gd), (gd, gD w tg ag now), (L + 1 + 1, og), (L + 1, oa), (dr, listOf #[] 0)]))), p ∈ nx := by
    intro p hp
    rw [hnx]
    exact .tail _ (.tail _ (.tail _ (.tail _ (.tail _ (.tail _ (.tail _ (.tail _ (.tail _ hp))))))))
  have l0 := K0.lt _ (.head _)
  have l1 : @LT.lt Nat _ sn0 md1 := K1.lt (sn0, listOf #[] 0) (by simp [mkR])
  have l2 : @LT.lt Nat _ sn1 md2 := K2.lt (sn1, listOf #[] 0) (by simp [mkR])
  have l3 : @LT.lt Nat _ sn2 tb0 := k0 (sn2, listOf #[] 0) (by simp [mkR])
  have l4 := k0 _ (.head _)
  have A := hml
  have Bm := hin
  unfold mkR at A Bm
  simp only [List.cons_append, List.nil_append, List.forall_mem_cons, List.not_mem_nil, false_implies, implies_true, and_true] at A Bm
  obtain ⟨A1, A2, A3, A4, A5, A6, A7, A8, A9, A10, A11, A12, A13, A14, A15, A16, A17, A18, A19, A20, A21, A22, A23, A24⟩ := A
  obtain ⟨B1, B2, B3, B4, B5, B6, B7, B8, B9, B10, B11, B12, B13, B14, B15, B16, B17, B18, B19, B20, B21, B22, B23, B24⟩ := Bm
  have C : Inc [L + 1, L + 1 + 1, gd, g, dr, nm, md0, mg0, di0, im0, lk0, sn0, md1, mg1, di1, im1, lk1, sn1, md2, mg2, di2, im2, lk2, sn2, tb0, tb1, tb2, tl, lg, dn, rd, se] :=
    ⟨Nat.lt_succ_self _, h1, h2, h3, h4, l0, K0.o1, K0.o2, K0.o3, K0.o4, K0.o5, l1, K1.o1, K1.o2, K1.o3, K1.o4, K1.o5, l2, K2.o1, K2.o2, K2.o3, K2.o4, K2.o5, l3, k1, k2, k3, k4, k5, k6, k7, trivial⟩
  have Ct : Inc [tb0, tb1, tb2, tl, lg, dn, rd, se] := ⟨k1, k2, k3, k4, k5, k6, k7, trivial⟩
  have D : (ml :: [L + 1, L + 1 + 1, gd, g, dr, nm, md0, mg0, di0, im0, lk0, sn0, md1, mg1, di1, im1, lk1, sn1, md2, mg2, di2, im2, lk2, sn2, tb0, tb1, tb2, tl, lg, dn, rd, se]).Nodup := by
    refine List.nodup_cons.mpr ⟨fun hm => ?_, inc_nodup C⟩
    have : ml ∈ [L + 1, L + 1 + 1, gd, g, dr, nm, md0, mg0, di0, im0, lk0, sn0, md1, mg1, di1, im1, lk1, sn1, md2, mg2, di2, im2, lk2, sn2] ∨ ml ∈ [tb0, tb1, tb2, tl, lg, dn, rd, se] := by
      rw [← List.mem_append]; exact hm
    rcases this with q | q
    · have hne : ∀ x ∈ [L + 1, L + 1 + 1, gd, g, dr, nm, md0, mg0, di0, im0, lk0, sn0, md1, mg1, di1, im1, lk1, sn1, md2, mg2, di2, im2, lk2, sn2], @Ne Nat x ml := by
        simp only [List.forall_mem_cons]
        exact ⟨A23, A22, A21, A20, A24, A19, A14, A13, A16, A15, A17, A18, A8, A7, A10, A9, A11, A12, A2, A1, A4, A3, A5, A6, List.forall_mem_nil _⟩
      exact hne ml q rfl
    · rcases List.mem_cons.mp q with q | q
      · exact absurd l4 (by rw [q]; exact Nat.lt_irrefl _)
      · exact absurd (Nat.lt_trans l4 (inc_lt Ct _ q)) (Nat.lt_irrefl _)
  refine ⟨fun s => (ml :: [L + 1, L + 1 + 1, gd, g, dr, nm, md0, mg0, di0, im0, lk0, sn0, md1, mg1, di1, im1, lk1, sn1, md2, mg2, di2, im2, lk2, sn2, tb0, tb1, tb2, tl, lg, dn, rd, se]).getD (idx s) 0, ⟨fun a b ha hb e => addr_inj D rfl ha hb e, rfl, rfl, all_ok ?_⟩, ⟨f1, f2, f3, f4, f5, f6, f7⟩⟩
  have Z : ∀ p ∈ [((tl, listOf [Value.ref tb0, .ref tb1, .ref tb2].toArray x1) : Addr × Obj), (tb0, o0), (tb1, o1), (tb2, o2), (lg, listOf #[] x2), (dn, listOf [Value.int 0 p0, .int 0 p1, .int 0 p2].toArray x3), (rd, listOf [Value.int 0 q0, .int 0 q1, .int 0 q2].toArray x4), (se, listOf [Value.int 0 r0, .int 0 r1, .int 0 r2].toArray x5), (ml, listOf [Value.ref mg0, .ref mg1, .ref mg2].toArray c)], p ∈ nx := by
    intro p hp
    rw [hnx]
    exact List.mem_append.mpr (.inl hp)
  clear hnx hin hml A1 A2 A3 A4 A5 A6 A7 A8 A9 A10 A11 A12 A13 A14 A15 A16 A17 A18 A19 A20 A21 A22 A23 A24 k0 C D Ct
  simp only [List.forall_mem_cons, List.not_mem_nil, false_implies, implies_true, and_true] at Z
  obtain ⟨Z1, Z2, Z3, Z4, Z5, Z6, Z7, Z8, Z9⟩ := Z
  simp only [slots, List.forall_mem_cons, List.not_mem_nil, false_implies, implies_true, and_true]
  refine ⟨⟨_, Z9, c, rfl⟩, ⟨_, B23, ta, hoa⟩, ⟨_, B22, hog⟩, ⟨_, B21, tg, ag, rfl⟩, ⟨_, B20, rfl⟩, ⟨_, B24, [], 0, rfl, .nil⟩, ⟨_, B19, n, t0, t1, t2, rfl⟩,
    ⟨_, B14, a0, rfl⟩, ⟨_, B13, rfl⟩, ⟨_, B16, b0, c0, d0, rfl⟩, ⟨_, B15, rfl⟩, ⟨_, B17, dt_empty K0.dict, K0.ns⟩, ⟨_, B18, [], 0, rfl, .nil⟩,
    ⟨_, B8, a1, rfl⟩, ⟨_, B7, rfl⟩, ⟨_, B10, b1, c1, d1, rfl⟩, ⟨_, B9, rfl⟩, ⟨_, B11, dt_empty K1.dict, K1.ns⟩, ⟨_, B12, [], 0, rfl, .nil⟩,
    ⟨_, B2, a2, rfl⟩, ⟨_, B1, rfl⟩, ⟨_, B4, b2, c2, d2, rfl⟩, ⟨_, B3, rfl⟩, ⟨_, B5, dt_empty K2.dict, K2.ns⟩, ⟨_, B6, [], 0, rfl, .nil⟩,
    ⟨_, Z2, dt_empty i0, j0⟩, ⟨_, Z3, dt_empty i1, j1⟩, ⟨_, Z4, dt_empty i2, j2⟩, ⟨_, Z1, x1, rfl⟩, ⟨_, Z5, [], x2, rfl, .nil⟩, ⟨_, Z6, x3, p0, p1, p2, rfl⟩, ⟨_, Z7, x4, q0, q1, q2, rfl⟩, ⟨_, Z8, x5, r0, r1, r2, rfl⟩⟩
end Mine
namespace Mine
def fstS : List Stmt := lawBody.take 1
def retS : List Stmt := lawBody.drop 6
section
variable {w : World} {h₀ : Heap} {L fa : Addr} {cd : Value} {mg mb : Str → Option Value} {mean : ExcName → Option Value} {E : Value → Shared → Prop} {Q : Flow → Shared → Prop} {s : Shared} {m : Str → Option Value} {nx : List (Addr × Obj)}
variable (KX : (Mine.hd.heap_1 w.params).In h₀) (T : Top viewQ (looseW viewQ []) mean mg mb h₀) (B : Below callerA h₀ [] h₀)
include KX T B
set_option maxHeartbeats 4000000 in
theorem s_head {sc : Addr} {vals : List Value} {ns : List Int} (F : Fr h₀ L s.heap m) (N : News h₀ L s.heap nx) (hm : m (Str.ofString "script") = some (.ref sc)) (hL : h₀.IsList sc vals.toArray) (hI : IntsAre vals ns) (hlen : ns.length ≤ 63)
    (hk : ∀ h' tk m' head th, Fr h₀ L h' m' → News h₀ L h' nx → (∀ z, List.contains [Str.ofString "head"] z = false → m' z = m z) → m' (Str.ofString "head") = some (.int head th) → Q .next { s with heap := h', toks := tk }) :
    wpAny (model prg w) (lawA L fa cd) (execs fstS (lawEnv L fa cd)) Q E s := by
  obtain ⟨heap, gens, drawn, toks, os⟩ := s
  have hps := all1 hm
  have F0 := fr_known _ hps F
  clear F
  dsimp only at F0 N hk ⊢
  unfold prg at *; revert KX; k_fill; intro KX; w_top off
  have hMk := kstMark
  show wpAny _ _ (execs (_ :: []) _) _ _ _
  k_steps
  all_goals (rename Fr _ _ _ _ => F9; rename News _ _ _ _ => N9; refine hk _ _ _ _ _ F9 N9 ?_ rfl; intro z hz; simp only [if_neg (ne_of_notin (x := Str.ofString "head") hz (by decide)), kst_back hps])
theorem s_ret (F : Fr h₀ L s.heap m) (N : News h₀ L s.heap nx) (hk : ∀ h' tk, Fr h₀ L h' m → News h₀ L h' nx → Q (.ret (.bool true)) { s with heap := h', toks := tk }) :
    wpAny (model prg w) (lawA L fa cd) (execs retS (lawEnv L fa cd)) Q E s := by
  obtain ⟨heap, gens, drawn, toks, os⟩ := s
  dsimp only at F N hk ⊢
  unfold prg at *; revert KX; k_fill; intro KX; w_top off
  have hMk := kstMark
  show wpAny _ _ (execs (_ :: []) _) _ _ _
  k_steps
  all_goals exact hk _ _ (by assumption) (by assumption)
end
end Mine
namespace Mine
theorem law_parts : lawBody = fstS ++ (initS ++ (mgrS ++ (tabS ++ (forT :: retS)))) := rfl
section
variable {w : World} {h₀ : Heap} {L fa : Addr} {cd : Value} {mg mb : Str → Option Value} {mean : ExcName → Option Value} {E : Value → Shared → Prop} {Q : Flow → Shared → Prop} {s : Shared} {m : Str → Option Value}
variable (KX : (Mine.hd.heap_1 w.params).In h₀) (T : Top viewQ (looseW viewQ []) mean mg mb h₀) (B : Below callerA h₀ [] h₀)
  (hE : PassesOwn (model prg w) (lawA L fa cd) (lawEnv L fa cd) E)
include KX T B hE
theorem law_ok {sc : Addr} {vals : List Value} {ns : List Int} {oa og : Obj} {ca cg : Option Value} (F : Fr h₀ L s.heap m) (N : News h₀ L s.heap [(L + 1 + 1, og), (L + 1, oa)]) (hoa : oa.data = .cell ca) (hog : og.data = .cell cg)
    (hm : m (Str.ofString "script") = some (.ref sc)) (hL : h₀.IsList sc vals.toArray) (hI : IntsAre vals ns) (hlen : ns.length ≤ 63)
    (hk : ∀ h' tk m' nx', Fr h₀ L h' m' → News h₀ L h' nx' → Q (.ret (.bool true)) { s with heap := h', toks := tk }) :
    wpAny (model prg w) (lawA L fa cd) (execs lawBody (lawEnv L fa cd)) Q E s := by
  rw [law_parts]
  refine my_app (s_head KX T B F N hm hL hI hlen ?_)
  intro h1 tk1 m1 head th F1 N1 z1 e1
  refine my_app (s_init KX T B F1 e1 hoa hog N1 ?_)
  intro h2 tk2 m2 auto now nm g gd dr oa' og' ta tg ag n t0 t1 t2 o1 o2 o3 o4 F2 z2 e2 hau hoa' hog' N2
  refine my_app (s_mgrs KX T B F2 e2 hoa' hog' N2 (by k_mem) (by k_mem) ?_)
  intro h3 tk3 m3 ml c mg0 md0 im0 di0 lk0 sn0 ol0 a0 b0 c0 d0 mg1 md1 im1 di1 lk1 sn1 ol1 a1 b1 c1 d1 mg2 md2 im2 di2 lk2 sn2 ol2 a2 b2 c2 d2 K0 K1 K2 F3 z3 e3 N3 hml
  refine my_app ?_
  with_reducible refine s_tabs KX T B F3 N3 ?_
  intro h4 tk4 m4 tb0 tb1 tb2 tl lg dn rd se p0 p1 p2 q1 q2 r0 r1 r2 q3 u0 u1 u2 q4 v0 v1 v2 q5 F4 z4 y1 y2 y3 y4 y5 N4 K4
  obtain ⟨Y, I, lf⟩ := inv_init (m := m4) o1 o2 o3 o4 hoa' hog' K0 K1 K2 rfl hml rfl K4 ((z4 _ (by decide)).trans e3) y1 ((z4 _ (by decide)).trans ((z3 _ (by decide)).trans e2)) y3 y4 y5 y2
  refine wpAny_execs_cons ?_
  refine s_loop KX T B hE F4 N4 I lf (good0 hau) (((z4 _ (by decide)).trans ((z3 _ (by decide)).trans ((z2 _ (by decide)).trans (z1 _ (by decide))))).trans hm) hL hI hlen ?_
  intro h5 tk5 m5 nx5 F5 N5
  refine s_ret KX T B F5 N5 ?_
  intro h6 tk6 F6 N6
  exact hk h6 tk6 m5 nx5 F6 N6
end
end Mine
set_option maxHeartbeats 8000000 in
theorem PySem.Challenge.cw_jd0033_01_holds : PySem.Challenge.rw_jd0033_01.Holds := by
  refine Mine.hd ⟨Mine.leftQ, ?_⟩
  k_go0
  all_goals try k_fold
  k_here
  rename Fr _ _ _ _ => F
  rename News _ _ _ _ => N0
  rename Top _ _ _ _ _ _ => T
  rename Below _ _ _ _ => K0
  rename IntsAre _ _ => hI
  rename Heap.IsList _ _ _ => hL
  refine' Mine.law_ok (by assumption) T ?hB ?hE F N0 (by assumption) (by assumption) ?h3 hL hI ?h5 ?h6
  case hB => exact K0
  case hE => with_unfolding_all passes_own
  case h3 => rfl
  case h5 => omega
  case h6 =>
    intro h' tk m' nx' F' N'
    k_steps
