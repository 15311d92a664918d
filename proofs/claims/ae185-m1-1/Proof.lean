import JvmDerived
import JvmDerived.Pilot.@@N@@Statement
import JvmDerived.Pilot.@@N@@Code
set_option linter.unusedVariables false
set_option linter.unusedSimpArgs false
@@BLOCK:HandJ.lean.txt@@
@@BLOCK:HandW.lean.txt@@
@@BLOCK:HandBits.lean.txt@@
@@BLOCK:SymRun.lean.txt@@
@@BLOCK:RowBasics.lean.txt@@
@@BLOCK:Bridge.lean.txt@@
@@BLOCK:SymKit.lean.txt@@
@@BLOCK:NumsL.lean.txt@@
namespace Jvm.Pilot.@@N@@
open Jvm Jvm.ClassFile Sem Op Jvm.Sym Jvm.Pilot.@@N@@.Jvm.D

/-! OWN LAYER 1: the sort of a term that reads nothing but the arguments; the needs of a walk paid by that sort -/
def own_bin : Binary → Option (VKind × VKind × VKind)
  | .iand => some (.int, .int, .int)
  | .ior => some (.int, .int, .int)
  | .ixor => some (.int, .int, .int)
  | .ishl => some (.int, .int, .int)
  | .ishr => some (.int, .int, .int)
  | .iushr => some (.int, .int, .int)
  | .ladd => some (.long, .long, .long)
  | .lsub => some (.long, .long, .long)
  | .lmul => some (.long, .long, .long)
  | .land => some (.long, .long, .long)
  | .lor => some (.long, .long, .long)
  | .lxor => some (.long, .long, .long)
  | .lshl => some (.long, .int, .long)
  | .lshr => some (.long, .int, .long)
  | .lushr => some (.long, .int, .long)
  | .lcmp => some (.long, .long, .int)
  | _ => none
def own_un : Unary → Option (VKind × VKind)
  | .ineg => some (.int, .int)
  | .i2b => some (.int, .int)
  | .i2c => some (.int, .int)
  | .i2s => some (.int, .int)
  | .lneg => some (.long, .long)
  | .i2l => some (.int, .long)
  | .l2i => some (.long, .int)
  | _ => none
def own_nz : Term → Bool
  | .int v => decide (v ≠ 0)
  | .long v => decide (v ≠ 0)
  | _ => false
def own_ty (ks : List VKind) : Term → Option VKind
  | .arg i => ks[i]?
  | .int _ => some .int
  | .long _ => some .long
  | .old t => own_ty ks t
  | .add a b => if own_ty ks a = some .int ∧ own_ty ks b = some .int then some .int else none
  | .sub a b => if own_ty ks a = some .int ∧ own_ty ks b = some .int then some .int else none
  | .mul a b => if own_ty ks a = some .int ∧ own_ty ks b = some .int then some .int else none
  | .div a b => if own_ty ks a = some .int ∧ own_ty ks b = some .int ∧ own_nz b = true then some .int else none
  | .rem a b => if own_ty ks a = some .int ∧ own_ty ks b = some .int ∧ own_nz b = true then some .int else none
  | .op2 o a b => match own_bin o with
    | some q => if own_ty ks a = some q.1 ∧ own_ty ks b = some q.2.1 then some q.2.2 else none
    | none => if o = .ldiv ∧ own_ty ks a = some .long ∧ own_ty ks b = some .long ∧ own_nz b = true then some .long else none
  | .op1 o a => match own_un o with
    | some q => if own_ty ks a = some q.1 then some q.2 else none
    | none => none
  | _ => none
def own_args (ks : List VKind) (A : Array Value) : Prop := ∀ (i : Nat) (k : VKind), ks[i]? = some k → ∃ v : Value, A[i]? = some v ∧ k.ok v = true
theorem own_int {v : Value} (h : VKind.int.ok v = true) : ∃ n, v = .int n := by
  cases v <;> first | exact ⟨_, rfl⟩ | exact Bool.noConfusion h
theorem own_long {v : Value} (h : VKind.long.ok v = true) : ∃ n, v = .long n := by
  cases v <;> first | exact ⟨_, rfl⟩ | exact Bool.noConfusion h
theorem own_bin_sound {o : Binary} {q : VKind × VKind × VKind} (h : own_bin o = some q) {va vb : Value} (ha : q.1.ok va = true) (hb : q.2.1.ok vb = true) : ∃ v, o.apply va vb = some v ∧ q.2.2.ok v = true := by
  cases o <;> simp only [own_bin, Option.some.injEq, reduceCtorEq] at h <;> subst h <;> first
    | (obtain ⟨x, rfl⟩ := own_int ha; obtain ⟨y, rfl⟩ := own_int hb; exact ⟨_, rfl, rfl⟩)
    | (obtain ⟨x, rfl⟩ := own_long ha; obtain ⟨y, rfl⟩ := own_long hb; exact ⟨_, rfl, rfl⟩)
    | (obtain ⟨x, rfl⟩ := own_long ha; obtain ⟨y, rfl⟩ := own_int hb; exact ⟨_, rfl, rfl⟩)
theorem own_un_sound {o : Unary} {q : VKind × VKind} (h : own_un o = some q) {va : Value} (ha : q.1.ok va = true) : ∃ v, o.apply va = some v ∧ q.2.ok v = true := by
  cases o <;> simp only [own_un, Option.some.injEq, reduceCtorEq] at h <;> subst h <;> first
    | (obtain ⟨x, rfl⟩ := own_int ha; exact ⟨_, rfl, rfl⟩)
    | (obtain ⟨x, rfl⟩ := own_long ha; exact ⟨_, rfl, rfl⟩)
theorem own_ty_sound {ks : List VKind} {A : Array Value} (hA : own_args ks A) (t : Term) : ∀ k, own_ty ks t = some k → ∀ (first : State) (o : Option Outcome) (idx : List Nat) (s : State), ∃ v, t.eval A first o idx s = some v ∧ k.ok v = true := by
  induction t with
  | arg i => intro k h first o idx s; exact hA i k h
  | int v => intro k h first o idx s; cases h; exact ⟨_, rfl, rfl⟩
  | long v => intro k h first o idx s; cases h; exact ⟨_, rfl, rfl⟩
  | old t ih => intro k h first o idx s; exact ih k h first o idx first
  | add a b iha ihb | sub a b iha ihb | mul a b iha ihb =>
    intro k h first o idx s
    simp only [own_ty] at h
    split at h
    · rename_i hk
      cases h
      obtain ⟨va, ea, oa⟩ := iha _ hk.1 first o idx s
      obtain ⟨vb, eb, ob⟩ := ihb _ hk.2 first o idx s
      obtain ⟨x, rfl⟩ := own_int oa
      obtain ⟨y, rfl⟩ := own_int ob
      first
      | exact ⟨.int (x + y), by simp only [Term.eval, ea, eb]; rfl, rfl⟩
      | exact ⟨.int (x - y), by simp only [Term.eval, ea, eb]; rfl, rfl⟩
      | exact ⟨.int (x * y), by simp only [Term.eval, ea, eb]; rfl, rfl⟩
    · cases h
  | div a b iha ihb =>
    intro k h first o idx s
    simp only [own_ty] at h
    split at h
    · rename_i hk
      cases h
      obtain ⟨va, ea, oa⟩ := iha _ hk.1 first o idx s
      obtain ⟨x, rfl⟩ := own_int oa
      cases b with
      | int y =>
        have hy : y ≠ 0 := of_decide_eq_true hk.2.2
        exact ⟨.int (x / y), by simp [Term.eval, ea, hy], rfl⟩
      | long y => cases hk.2.1
      | _ => exact Bool.noConfusion hk.2.2
    · cases h
  | rem a b iha ihb =>
    intro k h first o idx s
    simp only [own_ty] at h
    split at h
    · rename_i hk
      cases h
      obtain ⟨va, ea, oa⟩ := iha _ hk.1 first o idx s
      obtain ⟨x, rfl⟩ := own_int oa
      cases b with
      | int y =>
        have hy : y ≠ 0 := of_decide_eq_true hk.2.2
        exact ⟨.int (x % y), by simp [Term.eval, ea, hy], rfl⟩
      | long y => cases hk.2.1
      | _ => exact Bool.noConfusion hk.2.2
    · cases h
  | op2 f a b iha ihb =>
    intro k h first o idx s
    simp only [own_ty] at h
    split at h
    · rename_i q hq
      split at h
      · rename_i hk
        cases h
        obtain ⟨va, ea, oa⟩ := iha _ hk.1 first o idx s
        obtain ⟨vb, eb, ob⟩ := ihb _ hk.2 first o idx s
        obtain ⟨v, hv, hkv⟩ := own_bin_sound hq oa ob
        exact ⟨v, by simp only [Term.eval, ea, eb]; exact hv, hkv⟩
      · cases h
    · split at h
      · rename_i hk
        cases h
        obtain ⟨rfl, h1, h2, h3⟩ := hk
        obtain ⟨va, ea, oa⟩ := iha _ h1 first o idx s
        obtain ⟨x, rfl⟩ := own_long oa
        cases b with
        | int y => cases h2
        | long y =>
          have hy : y ≠ 0 := of_decide_eq_true h3
          refine ⟨.long (x / y), ?_, rfl⟩
          simp [Term.eval, ea, hy, Binary.apply]
        | _ => exact Bool.noConfusion h3
      · cases h
  | op1 f a iha =>
    intro k h first o idx s
    simp only [own_ty] at h
    split at h
    · rename_i q hq
      split at h
      · rename_i hk
        cases h
        obtain ⟨va, ea, oa⟩ := iha _ hk first o idx s
        obtain ⟨v, hv, hkv⟩ := own_un_sound hq oa
        exact ⟨v, by simp only [Term.eval, ea]; exact hv, hkv⟩
      · cases h
    · cases h
  | _ => intro k h; cases h
def own_cmp (ks : List VKind) (a b : Term) : Bool := decide ((own_ty ks a = some .int ∧ own_ty ks b = some .int) ∨ (own_ty ks a = some .long ∧ own_ty ks b = some .long))
def own_defd (ks : List VKind) : Cond → Bool
  | .eq a b => own_cmp ks a b
  | .lt a b => own_cmp ks a b
  | .le a b => own_cmp ks a b
  | .not c => own_defd ks c
  | _ => false
def own_ok (ks : List VKind) (T : List Cond) : Cond → Bool
  | .tt => true
  | .isInt t => decide (own_ty ks t = some .int)
  | .isLong t => decide (own_ty ks t = some .long)
  | .and a b => own_ok ks T a && own_ok ks T b
  | .or a b => (own_defd ks a && own_ok ks T b) || T.contains (.or a b)
  | q => T.contains q
theorem own_cmp_sound {ks : List VKind} {A : Array Value} (hA : own_args ks A) {s : State} {a b : Term} (h : own_cmp ks a b = true) :
    (∃ x y, a.eval A s none [] s = some (.int x) ∧ b.eval A s none [] s = some (.int y)) ∨ (∃ x y, a.eval A s none [] s = some (.long x) ∧ b.eval A s none [] s = some (.long y)) := by
  rcases of_decide_eq_true h with ⟨h1, h2⟩ | ⟨h1, h2⟩
  · obtain ⟨va, ea, oa⟩ := own_ty_sound hA a _ h1 s none [] s
    obtain ⟨vb, eb, ob⟩ := own_ty_sound hA b _ h2 s none [] s
    obtain ⟨x, rfl⟩ := own_int oa
    obtain ⟨y, rfl⟩ := own_int ob
    exact Or.inl ⟨x, y, ea, eb⟩
  · obtain ⟨va, ea, oa⟩ := own_ty_sound hA a _ h1 s none [] s
    obtain ⟨vb, eb, ob⟩ := own_ty_sound hA b _ h2 s none [] s
    obtain ⟨x, rfl⟩ := own_long oa
    obtain ⟨y, rfl⟩ := own_long ob
    exact Or.inr ⟨x, y, ea, eb⟩
theorem own_defd_sound {ks : List VKind} {A : Array Value} (hA : own_args ks A) {s : State} (q : Cond) : own_defd ks q = true → ∃ b, q.value A s none s [] = some b := by
  induction q with
  | eq a b | lt a b | le a b =>
    intro h
    rcases own_cmp_sound hA (s := s) (a := a) (b := b) h with ⟨x, y, ea, eb⟩ | ⟨x, y, ea, eb⟩ <;> exact ⟨_, by simp only [Cond.value, ea, eb]; rfl⟩
  | not c ih => intro h; obtain ⟨b, hb⟩ := ih h; exact ⟨_, by simp only [Cond.value, hb]; rfl⟩
  | _ => intro h; cases h
theorem own_ok_sound {ks : List VKind} {T : List Cond} {A : Array Value} (hA : own_args ks A) {s : State} (hT : ∀ c ∈ T, c.value A s none s [] = some true) (q : Cond) : own_ok ks T q = true → q.value A s none s [] = some true := by
  induction q with
  | tt => intro _; rfl
  | isInt t =>
    intro h
    obtain ⟨v, e, o⟩ := own_ty_sound hA t _ (of_decide_eq_true h) s none [] s
    obtain ⟨x, rfl⟩ := own_int o
    simp only [Cond.value, e]; rfl
  | isLong t =>
    intro h
    obtain ⟨v, e, o⟩ := own_ty_sound hA t _ (of_decide_eq_true h) s none [] s
    obtain ⟨x, rfl⟩ := own_long o
    simp only [Cond.value, e]; rfl
  | and a b iha ihb =>
    intro h
    simp only [own_ok, Bool.and_eq_true] at h
    simp only [Cond.value, iha h.1, ihb h.2]
  | or a b iha ihb =>
    intro h
    simp only [own_ok, Bool.or_eq_true, Bool.and_eq_true] at h
    rcases h with h | h
    · obtain ⟨v, hv⟩ := own_defd_sound hA (s := s) a h.1
      cases v with
      | true => simp only [Cond.value, hv]
      | false => simp only [Cond.value, hv, ihb h.2]
    · exact hT _ (List.contains_iff_mem.mp h)
  | _ => intro h; exact hT _ (List.contains_iff_mem.mp h)
theorem own_needs {ks : List VKind} {T L : List Cond} {A : Array Value} (hA : own_args ks A) {s : State} (hT : ∀ c ∈ T, c.value A s none s [] = some true) (h : (L.all (own_ok ks T)) = true) : ∀ q ∈ L, q.before A s = true :=
  fun q hq => before_of_value (own_ok_sound hA hT q (List.all_eq_true.mp h q hq))
theorem own_mem_sorts : ∀ (ks : List VKind) (j i : Nat) (k : VKind), ks[i]? = some k → isK k (.arg (j + i)) ∈ sorts j ks
  | [], _, _, _, h => by simp at h
  | k0 :: ks, j, 0, k, h => by
    have e : k0 = k := by simpa using h
    subst e
    exact List.mem_cons_self
  | k0 :: ks, j, i + 1, k, h => by
    have h2 := own_mem_sorts ks (j + 1) i k (by simpa using h)
    have e : j + 1 + i = j + (i + 1) := by omega
    rw [e] at h2
    exact List.mem_cons_of_mem _ h2
theorem own_args_of {ks : List VKind} {A : Array Value} {s : State} (h : ∀ q ∈ sorts 0 ks, q.before A s = true) : own_args ks A := by
  intro i k hk
  have hm := own_mem_sorts ks 0 i k hk
  rw [Nat.zero_add] at hm
  obtain ⟨v, hv, ho⟩ := isK_spec (h _ hm)
  exact ⟨v, hv, ho⟩

/-! OWN LAYER 2: a callee by a promise of one term; the law -/
def own_spec (y : MethodName) (ycode : ByteArray) (maxL : Nat) (rt : Option FieldType) (ks : List VKind) (tm : Term) (tabs : List Cond) (room : Room) : Spec :=
  specOf y ycode maxL rt ks (.and .returned (.eq .result (.old tm))) tabs [] room
theorem own_meets {l : Launch} {y : MethodName} {ycode : ByteArray} {maxL : Nat} {rt : Option FieldType} {I : Info} {ks : List VKind} {n : Nat} {t : STree} {tabs needs : List Cond} (tm : Term)
    (hx : plainName y.cls = true) (hown : I.own = y.cls) (hr : I.ret = rt) (hw : walkTo I ycode [] n true (entry ks maxL) = some (t, tabs, needs)) (hp : Kit.pureVal t = true) (hn : (needs.all (own_ok ks tabs)) = true) (hcl : tm.closed = true)
    (hv : ∀ A s, A.size = ks.length → own_args ks A → ∃ z : Int32, Kit.valueOf A s t = some (.int z) ∧ tm.eval A s none [] s = some (.int z))
    (hcalls : CallsOk l I maxL I.room := by intro q hq; cases hq) : MeetsLoose l y (own_spec y ycode maxL rt ks tm tabs I.room) := by
  refine loops_meets (I := I) (ks0 := ks) (cuts := []) hx hown hr rfl rfl rfl (fun args s h => conj_before h _ List.mem_cons_self) hw (fun _ => none) (fun _ _ _ _ _ => False) (fun _ _ _ => 0) (fun args s h => ?_) (fun args s _ h ks hks => by cases hks) hcalls
  have hpre := conj_before h
  have hcount : args.size = ks.length := by
    have h1 := hpre (.count ks.length) (by simp)
    simpa [Cond.before, Cond.holds, Cond.value] using h1
  have hsorts : ∀ q ∈ sorts 0 ks, q.before args s = true := fun q hq => hpre q (by simp [hq])
  have htabs : ∀ q ∈ tabs, q.before args s = true := fun q hq => hpre q (by simp [hq])
  have hA := own_args_of hsorts
  obtain ⟨z, h1, h2⟩ := hv args s hcount hA
  refine ⟨hcount, hsorts, htabs, own_needs hA (fun c hc => value_of_before (htabs c hc)) hn, Kit.vc_of_value (w₀ := .int z) (fun E => ?_) t hp h1⟩
  have h3 : (Term.old tm).eval args s (some (.returned (some (.int z)))) [] E = some (.int z) := (Term.eval_closed _ [] tm s hcl).trans h2
  show (Cond.and .returned (.eq .result (.old tm))).after args s (.returned (some (.int z))) E = true
  rw [Cond.after_and]
  have h4 : (Cond.eq .result (.old tm)).value args s (some (.returned (some (.int z)))) E [] = some (decide (z = z)) := Cond.eq_ints rfl h3
  simp [Cond.after, Cond.holds, h4]
  rfl
theorem own_met {Gt : List Cond} {I : Info} {ks : List VKind} {n : Nat} {t0 : STree} {tabs needs : List Cond} (l : Launch) (hx : plainName x.cls = true) (hI : I.own = x.cls) (hr : I.ret = ret)
    (hw : walkTo I code [] n true (entry ks maxLocals) = some (t0, tabs, needs))
    (hs : ((Cond.count ks.length :: sorts 0 ks).all fun q => (flatC (Cond.and given_1 narrow_1)).contains q) = true)
    (ht : (tabs.all fun q => (Cond.code x code maxLocals ret :: tables_1).contains q) = true)
    (hn : (needs.all (own_ok ks ((Cond.code x code maxLocals ret :: tables_1) ++ Gt))) = true)
    (hp : Kit.pureVal t0 = true)
    (hv : ∀ A s, A.size = ks.length → own_args ks A → Kit.valueOf A s t0 = some (.int 1))
    (hG : ∀ A s, A.size = ks.length → own_args ks A → ∀ c ∈ Gt, c.value A s none s [] = some true)
    (hcalls : CallsOk l I maxLocals room_1) :
    MeetsLoose l x (armSpec x code maxLocals ret tables_1 room_1 .tt (.and given_1 narrow_1) (.and limb_1_1 limb_1_2) frame_1_writes frame_1_arrays frame_1_statics) := by
  refine loops_meets (I := I) (ks0 := ks) (cuts := []) hx hI hr rfl rfl rfl (fun args s h => ?_) hw (fun _ => none) (fun _ _ _ _ _ => False) (fun _ _ _ => 0) (fun args s h => ?_) (fun args s _ h ks hks => by cases hks) hcalls
  · simp only [armSpec, allAtoms, List.foldr_cons, Cond.before_and, Bool.and_eq_true] at h; exact h.1.1
  · have hts : (allAtoms (Cond.code x code maxLocals ret :: tables_1)).before args s = true := by simp only [armSpec, Cond.before_and, Bool.and_eq_true] at h; exact h.1
    have hg : (Cond.and given_1 narrow_1).before args s = true := by simp only [armSpec, Cond.before_and, Bool.and_eq_true] at h ⊢; exact h.2.2
    have hall : ∀ q ∈ Cond.count ks.length :: sorts 0 ks, q.before args s = true := fun q hq => flat_of_before _ hg q (List.contains_iff_mem.mp (List.all_eq_true.mp hs q hq))
    have hcount : args.size = ks.length := by
      have h1 := hall _ List.mem_cons_self
      simpa [Cond.before, Cond.holds, Cond.value] using h1
    have hsorts : ∀ q ∈ sorts 0 ks, q.before args s = true := fun q hq => hall q (List.mem_cons_of_mem _ hq)
    have hA := own_args_of hsorts
    refine ⟨hcount, hsorts, tabs_of_sub hts ht, own_needs hA (fun c hc => (List.mem_append.mp hc).elim (fun h => value_of_before (atoms_spec hts c h)) (fun h => hG args s hcount hA c h)) hn, Kit.vc_of_value (w₀ := .int 1) (fun E => ?_) t0 hp (hv args s hcount hA)⟩
    simp [armSpec, limb_1_1, limb_1_2, Cond.after, Cond.holds, Cond.value, Term.eval]
theorem own_lim1 (h : ∀ l, MeetsLoose l x (armSpec x code maxLocals ret tables_1 room_1 .tt (.and given_1 narrow_1) (.and limb_1_1 limb_1_2) frame_1_writes frame_1_arrays frame_1_statics)) : Claimed_1_1 :=
  armFor_of_meets0 (fun l => (h l).meets) fun _ _ _ _ h => by simp only [Cond.after_and, Bool.and_eq_true] at h; exact h.1
theorem own_lim2 (h : ∀ l, MeetsLoose l x (armSpec x code maxLocals ret tables_1 room_1 .tt (.and given_1 narrow_1) (.and limb_1_1 limb_1_2) frame_1_writes frame_1_arrays frame_1_statics)) : Claimed_1_2 :=
  armFor_of_meets0 (fun l => (h l).meets) fun _ _ _ _ h => by simp only [Cond.after_and, Bool.and_eq_true] at h; exact h.2
theorem own_get {α β γ : Type} {o : Option (α × β × γ)} (h : o.isSome = true) {t : α} (ht : (o.get h).1 = t) : o = some (t, (o.get h).2.1, (o.get h).2.2) := by
  subst ht
  exact (Option.some_get h).symm
theorem own_fork {A : Array Value} {s : State} {G : Cond} {a b : STree} {v : Bool} (h : G.value A s none s [] = some v) : Kit.valueOf A s (.fork G a b) = if v = true then Kit.valueOf A s a else Kit.valueOf A s b := by
  cases v <;> simp only [Kit.valueOf, h] <;> rfl
end Jvm.Pilot.@@N@@
namespace Jvm.Pilot.@@N@@
open Jvm Jvm.ClassFile Sem Op Jvm.Sym Jvm.Pilot.@@N@@.Jvm.D

/-! 1. plain: the comparison of longs has three answers, and turns its sign with its sides -/
def own_c (a b : Int64) : Int32 := if a > b then 1 else if a == b then 0 else -1
theorem own_c3 (a b : Int64) : own_c a b = 1 ∨ own_c a b = 0 ∨ own_c a b = -1 := by
  unfold own_c
  by_cases h1 : a > b
  · simp [h1]
  · by_cases h2 : a = b <;> simp [h1, h2]
theorem own_c_swap (a b : Int64) : own_c b a = -own_c a b := by
  unfold own_c
  by_cases h2 : a = b
  · subst h2
    have h : ¬ a > a := fun h => by rw [gt_iff_lt, Int64.lt_iff_toInt_lt] at h; omega
    simp [h]
  · have h3 : a.toInt ≠ b.toInt := fun h => h2 (Int64.toInt_inj.mp h)
    have h4 : ¬ b = a := fun h => h2 h.symm
    by_cases h1 : a > b
    · have h5 : ¬ b > a := fun h => by rw [gt_iff_lt, Int64.lt_iff_toInt_lt] at h h1; omega
      simp [h1, h2, h4, h5]
    · have h5 : b > a := by rw [gt_iff_lt, Int64.lt_iff_toInt_lt] at *; omega
      simp [h1, h2, h4, h5]
/-- 1 where the pair goes before: by the sign bit of 2c + d -/
def own_f (c d : Int32) : Int32 := (((c + c) + d).toUInt32 >>> ((31 : Int32) &&& 31).toUInt32).toInt32

/-! 2. the callees: one term for both -/
def Z (k : Int32) : Term := .op2 .iand (.int k) (.int 1)
def R (k : Int32) : STree := .ret (some ⟨Z k, .int⟩) []
def tC (a b : Term) : Term := .op2 .lcmp a b
def tM (p i q j : Term) : Term := .op2 .iushr (.add (.add (tC p q) (tC p q)) (tC i j)) (.int 31)
theorem own_eC {A : Array Value} {s : State} {a b : Term} {u v : Int64} (ea : a.eval A s none [] s = some (.long u)) (eb : b.eval A s none [] s = some (.long v)) : (tC a b).eval A s none [] s = some (.int (own_c u v)) := by
  simp only [tC, Term.eval, ea, eb]; rfl
theorem own_eM {A : Array Value} {s : State} {a b c d : Term} {p i q j : Int64} (ea : a.eval A s none [] s = some (.long p)) (eb : b.eval A s none [] s = some (.long i)) (ec : c.eval A s none [] s = some (.long q)) (ed : d.eval A s none [] s = some (.long j)) :
    (tM a b c d).eval A s none [] s = some (.int (own_f (own_c p q) (own_c i j))) := by
  have e1 := own_eC ea ec
  have e2 := own_eC eb ed
  simp only [tM, Term.eval, e1, e2]; rfl
def y1 : MethodName := ⟨"com/example/pipefish/pipefish/core/WatchList", "goesBefore", "(JJJJ)Z"⟩
def y1I : Info := { own := "com/example/pipefish/pipefish/core/WatchList", ret := some .boolean }
def y1w := walkTo y1I prog_26_method_12_code [] 200 true (entry [.long, .long, .long, .long] 8)
theorem y1w_some : y1w.isSome = true := by decide +kernel
def c1 : Term := tC (.arg 0) (.arg 2)
def c2 : Term := tC (.arg 1) (.arg 3)
def H1 : Cond := .eq (.old c1) (.int 0)
def H2 : Cond := .le (.int 0) (.old c2)
def H3 : Cond := .le (.int 0) (.old c1)
def H4 : Cond := .le (.old c1) (.int 0)
def t1 : STree := .fork H1 (.fork H2 (R 0) (R 1)) (.fork H3 (R 0) (R 1))
theorem y1tree : (y1w.get y1w_some).1 = t1 := by decide +kernel
def y1tabs : List Cond := (y1w.get y1w_some).2.1
theorem y1walk : walkTo y1I prog_26_method_12_code [] 200 true (entry [.long, .long, .long, .long] 8) = some (t1, y1tabs, (y1w.get y1w_some).2.2) := by
  rw [← y1tree]; exact (Option.some_get y1w_some).symm
def y2 : MethodName := ⟨x.cls, "lex", "(JJJJ)Z"⟩
def y2I : Info := { own := x.cls, ret := some .boolean }
def y2w := walkTo y2I method_2_code [] 200 true (entry [.long, .long, .long, .long] 8)
theorem y2w_some : y2w.isSome = true := by decide +kernel
def t2 : STree := .fork H3 (.fork H4 (.fork H2 (R 0) (R 1)) (R 0)) (R 1)
theorem y2tree : (y2w.get y2w_some).1 = t2 := by decide +kernel
def y2tabs : List Cond := (y2w.get y2w_some).2.1
theorem y2walk : walkTo y2I method_2_code [] 200 true (entry [.long, .long, .long, .long] 8) = some (t2, y2tabs, (y2w.get y2w_some).2.2) := by
  rw [← y2tree]; exact (Option.some_get y2w_some).symm
theorem own_pair {A : Array Value} {s : State} (hA : own_args [.long, .long, .long, .long] A) :
    (∃ z : Int32, Kit.valueOf A s t1 = some (.int z) ∧ (tM (.arg 0) (.arg 1) (.arg 2) (.arg 3)).eval A s none [] s = some (.int z)) ∧
    (∃ z : Int32, Kit.valueOf A s t2 = some (.int z) ∧ (tM (.arg 0) (.arg 1) (.arg 2) (.arg 3)).eval A s none [] s = some (.int z)) := by
  obtain ⟨v0, e0, k0⟩ := hA 0 .long rfl
  obtain ⟨v1, e1, k1⟩ := hA 1 .long rfl
  obtain ⟨v2, e2, k2⟩ := hA 2 .long rfl
  obtain ⟨v3, e3, k3⟩ := hA 3 .long rfl
  obtain ⟨p, rfl⟩ := own_long k0
  obtain ⟨i, rfl⟩ := own_long k1
  obtain ⟨q, rfl⟩ := own_long k2
  obtain ⟨j, rfl⟩ := own_long k3
  have em := own_eM (A := A) (s := s) (a := .arg 0) (b := .arg 1) (c := .arg 2) (d := .arg 3) e0 e1 e2 e3
  have f1 : c1.eval A s none [] s = some (.int (own_c p q)) := own_eC (a := .arg 0) (b := .arg 2) e0 e2
  have f2 : c2.eval A s none [] s = some (.int (own_c i j)) := own_eC (a := .arg 1) (b := .arg 3) e1 e3
  have g1 : H1.value A s none s [] = some (decide (own_c p q = 0)) := Cond.eq_ints (a := .old c1) f1 rfl
  have g2 : H2.value A s none s [] = some (decide (0 ≤ own_c i j)) := Cond.le_ints (b := .old c2) rfl f2
  have g3 : H3.value A s none s [] = some (decide (0 ≤ own_c p q)) := Cond.le_ints (b := .old c1) rfl f1
  have g4 : H4.value A s none s [] = some (decide (own_c p q ≤ 0)) := Cond.le_ints (a := .old c1) f1 rfl
  have r0 : Kit.valueOf A s (R 0) = some (.int 0) := rfl
  have r1 : Kit.valueOf A s (R 1) = some (.int 1) := rfl
  have h1 := own_c3 p q
  have h2 := own_c3 i j
  refine ⟨⟨_, ?_, em⟩, ⟨_, ?_, em⟩⟩
  · unfold t1
    rw [own_fork g1, own_fork g2, own_fork g3, r0, r1]
    generalize own_c p q = c at *
    generalize own_c i j = d at *
    rcases h1 with rfl | rfl | rfl <;> rcases h2 with rfl | rfl | rfl <;> rfl
  · unfold t2
    rw [own_fork g3, own_fork g4, own_fork g2, r0, r1]
    generalize own_c p q = c at *
    generalize own_c i j = d at *
    rcases h1 with rfl | rfl | rfl <;> rcases h2 with rfl | rfl | rfl <;> rfl
def y1spec : Spec := own_spec y1 prog_26_method_12_code 8 (some .boolean) [.long, .long, .long, .long] (tM (.arg 0) (.arg 1) (.arg 2) (.arg 3)) y1tabs {}
theorem y1meets (l : Launch) : MeetsLoose l y1 y1spec :=
  own_meets (I := y1I) (tM (.arg 0) (.arg 1) (.arg 2) (.arg 3)) (by decide) rfl rfl y1walk (by decide +kernel) (by decide +kernel) (by decide +kernel) (fun A s hs hA => (own_pair hA).1)
theorem y1cold : y1spec.Cold := Spec.cold_of_keeps (by decide +kernel)
def y2spec : Spec := own_spec y2 method_2_code 8 (some .boolean) [.long, .long, .long, .long] (tM (.arg 0) (.arg 1) (.arg 2) (.arg 3)) y2tabs {}
theorem y2meets (l : Launch) : MeetsLoose l y2 y2spec :=
  own_meets (I := y2I) (tM (.arg 0) (.arg 1) (.arg 2) (.arg 3)) (by decide) rfl rfl y2walk (by decide +kernel) (by decide +kernel) (by decide +kernel) (fun A s hs hA => (own_pair hA).2)
theorem y2cold : y2spec.Cold := Spec.cold_of_keeps (by decide +kernel)

/-! 3. the law, cut at 30 (the second pair chosen) and at 110 (both answers and 'exactly one' known) -/
def callee1 : Callee := { y := y1, S := y1spec, bytes := prog_26_method_12_code, maxL := 8, ret := some .boolean, static := true, params := 4, res := some .int }
def callee2 : Callee := { y := y2, S := y2spec, bytes := method_2_code, maxL := 8, ret := some .boolean, static := true, params := 4, res := some .int }
def I : Info := { own := x.cls, ret := ret, calls := [(7, callee1), (13, callee2)], maxLocals := maxLocals, room := room_1 }
theorem callsOk (l : Launch) : CallsOk l I maxLocals room_1 := fun q hq => by
  have hq' : q = (7, callee1) ∨ q = (13, callee2) := by simpa [I] using hq
  rcases hq' with rfl | rfl
  · exact ⟨rfl, rfl, y1meets l, y1cold⟩
  · exact ⟨rfl, rfl, y2meets l, y2cold⟩
def K0 : List VKind := [.long, .long, .long, .long, .int]
def K30 : List VKind := [.long, .long, .long, .long, .int, .long, .long]
def K110 : List VKind := [.long, .long, .long, .long, .int, .long, .long, .int, .int, .int, .int]
def ksOf (h : Nat) : Option (List VKind) := if h = 30 then some K30 else if h = 110 then some K110 else none
def L (t : Term) : SSlot := .val ⟨t, .long⟩
def N (t : Term) : SSlot := .val ⟨t, .int⟩
def F : Term := tM (.arg 0) (.arg 1) (.arg 5) (.arg 6)
def B : Term := tM (.arg 5) (.arg 6) (.arg 0) (.arg 1)
def M (k : Int32) : Cond := .eq (.old (.op2 .iand (.arg 4) (.int k))) (.int 0)
def x30 (Q J : Term) : SFrame := { pc := 30, locals := [L (.arg 0), .second, L (.arg 1), .second, L (.arg 2), .second, L (.arg 3), .second, N (.arg 4), L Q, .second, L J, .second, .unset, .unset, .unset, .unset], stack := [] }
def x110 (k e : Int32) : SFrame := { pc := 110, locals := [L (.arg 0), .second, L (.arg 1), .second, L (.arg 2), .second, L (.arg 3), .second, N (.arg 4), L (.arg 5), .second, L (.arg 6), .second, N F, N B, N (.int k), N (.int e)], stack := [] }
def GA : Cond := .not (.eq (.old (tC (.arg 0) (.arg 5))) (.int 0))
def GB : Cond := .not (.eq (.old (tC (.arg 1) (.arg 6))) (.int 0))
def Gk (k : Int32) : Cond := .eq (.old (.int k)) (.int 0)
def GE : Cond := .eq (.old F) (.old B)
def GN (a : Term) : Cond := .not (.eq (.old a) (.int 0))
def GX (a b : Term) : Cond := .not (.eq (.old a) (.old b))
def Ge : Cond := .eq (.old (.arg 10)) (.int 0)
def tK (k : Int32) : STree := .fork (Gk k) (.fork GE (.cut (x110 k 0)) (.cut (x110 k 1))) (.fork (GN F) (.cut (x110 k 0)) (.fork (GN B) (.cut (x110 k 0)) (.cut (x110 k 1))))
def t0 : STree := .fork (M 1) (.fork (M 2) (.cut (x30 (.arg 2) (.arg 3))) (.cut (x30 (.arg 2) (.arg 1)))) (.fork (M 2) (.cut (x30 (.arg 0) (.arg 3))) (.cut (x30 (.arg 0) (.arg 1))))
def t30 : STree := .fork GA (tK 0) (.fork GB (tK 0) (tK 1))
def t110 : STree := .fork (GX (.arg 7) F) (R 0) (.fork (GX (.arg 8) B) (R 0) (.fork Ge (R 0) (R 1)))
def w0 := walkTo I code [30, 110] 400 true (entry K0 maxLocals)
def w30 := walkTo I code [30, 110] 400 true (ident 30 K30 maxLocals)
def w110 := walkTo I code [30, 110] 400 true (ident 110 K110 maxLocals)
/-- the words of the tables that the walks ask stand in the sheet and look at no argument -/
def own_flat : Cond → Bool
  | .methodLink _ _ _ => true
  | .static _ => true
  | .initialized _ => true
  | .code _ _ _ _ => true
  | _ => false
theorem own_flat_args {q : Cond} (h : own_flat q = true) (A D : Array Value) (s : State) : q.before A s = q.before D s := by
  cases q <;> first | rfl | exact Bool.noConfusion h
def own_T : List Cond := [.code y1 prog_26_method_12_code 8 (some .boolean), .code y2 method_2_code 8 (some .boolean)]
def own_check (ks : List VKind) (t : STree) (o : Option (STree × List Cond × List Cond)) : Bool :=
  match o with
  | some q => decide (q.1 = t) && q.2.1.all (fun c => own_flat c && (Cond.code x code maxLocals ret :: tables_1).contains c) && q.2.2.all (own_ok ks own_T)
  | none => false
set_option maxRecDepth 65536 in
set_option maxHeartbeats 4000000 in
theorem own_c0 : own_check K0 t0 w0 = true := by decide +kernel
set_option maxRecDepth 65536 in
set_option maxHeartbeats 4000000 in
theorem own_c30 : own_check K30 t30 w30 = true := by decide +kernel
set_option maxRecDepth 65536 in
set_option maxHeartbeats 4000000 in
theorem own_c110 : own_check K110 t110 w110 = true := by decide +kernel
theorem own_out {ks : List VKind} {t : STree} {o : Option (STree × List Cond × List Cond)} (h : own_check ks t o = true) :
    ∃ tb nd, o = some (t, tb, nd) ∧ tb.all (fun c => own_flat c && (Cond.code x code maxLocals ret :: tables_1).contains c) = true ∧ nd.all (own_ok ks own_T) = true := by
  cases o with
  | none => exact Bool.noConfusion h
  | some q =>
    obtain ⟨t', tb, nd⟩ := q
    have h1 : (decide (t' = t) && tb.all (fun c => own_flat c && (Cond.code x code maxLocals ret :: tables_1).contains c) && nd.all (own_ok ks own_T)) = true := h
    rw [Bool.and_eq_true, Bool.and_eq_true, decide_eq_true_eq] at h1
    obtain ⟨⟨rfl, h2⟩, h3⟩ := h1
    exact ⟨tb, nd, rfl, h2, h3⟩
theorem own_tabs {tb : List Cond} {args A : Array Value} {s : State} (hts : (allAtoms (Cond.code x code maxLocals ret :: tables_1)).before args s = true)
    (h : tb.all (fun c => own_flat c && (Cond.code x code maxLocals ret :: tables_1).contains c) = true) : ∀ q ∈ tb, q.before A s = true := fun q hq => by
  have h1 := List.all_eq_true.mp h q hq
  rw [Bool.and_eq_true] at h1
  rw [own_flat_args h1.1 A args s]
  exact atoms_spec hts q (List.contains_iff_mem.mp h1.2)
theorem own_T_in : own_T.all (fun c => (Cond.code x code maxLocals ret :: tables_1).contains c) = true := by decide +kernel
theorem own_T_at {args A : Array Value} {s u : State} (hvm : u.vm = s.vm) (hts : (allAtoms (Cond.code x code maxLocals ret :: tables_1)).before args s = true) : ∀ c ∈ own_T, c.value A u none u [] = some true := fun c hc => by
  have h1 := atoms_spec hts c (List.contains_iff_mem.mp (List.all_eq_true.mp own_T_in c hc))
  simp only [own_T, List.mem_cons, List.not_mem_nil, or_false] at hc
  rcases hc with rfl | rfl
  · exact code_at_root hvm h1
  · exact code_at_root hvm h1
/-- the leaf to which the guards lead -/
def own_leaf (A : Array Value) (s : State) : STree → Option STree
  | .ret v W => some (.ret v W)
  | .cut σ => some (.cut σ)
  | .fork G a b => match G.value A s none s [] with
    | some true => own_leaf A s a
    | some false => own_leaf A s b
    | none => none
theorem own_vc {A : Array Value} {s : State} {Qr : Option SVal → List SWrite → Prop} {Qc : SFrame → Prop} : ∀ (t lf : STree), own_leaf A s t = some lf → lf.VC A s Qr Qc → t.VC A s Qr Qc
  | .ret v W, lf, h, hv => by cases h; exact hv
  | .cut σ, lf, h, hv => by cases h; exact hv
  | .fork G a b, lf, h, hv =>
    ⟨fun hG => own_vc a lf (by simpa only [own_leaf, hG] using h) hv, fun hG => own_vc b lf (by simpa only [own_leaf, hG] using h) hv⟩
theorem own_lfork {A : Array Value} {s : State} {G : Cond} {a b : STree} {v : Bool} (h : G.value A s none s [] = some v) : own_leaf A s (.fork G a b) = if v = true then own_leaf A s a else own_leaf A s b := by
  cases v <;> simp only [own_leaf, h] <;> rfl
theorem own_den {A : Array Value} {u : State} : ∀ (xs : List SVal) (vs : List Value), DenStack A u xs vs → xs.map (fun z => z.t.eval A u none [] u) = vs.map some
  | [], [], _ => rfl
  | [], _ :: _, h => h.elim
  | _ :: _, [], h => h.elim
  | z :: xs, v :: vs, h => by
    simp only [List.map_cons]
    rw [h.1.2.1, own_den xs vs h.2]
theorem own_vals {A : Array Value} {u : State} {xs : List SVal} {vs ws : List Value} (h : DenStack A u xs vs) (e : xs.map (fun z => z.t.eval A u none [] u) = ws.map some) : vs = ws := by
  have h1 := (own_den xs vs h).symm.trans e
  exact List.map_inj_right (fun _ _ h => Option.some.inj h) |>.mp h1
def J (_ : Array Value) (_ : State) (h : Nat) (A : Array Value) (_ : State) : Prop :=
  (h = 30 ∧ ∃ (p i q0 j0 q j : Int64) (m : Int32), A = #[.long p, .long i, .long q0, .long j0, .int m, .long q, .long j]) ∨
  (h = 110 ∧ ∃ (p i q0 j0 q j : Int64) (m k : Int32), A = #[.long p, .long i, .long q0, .long j0, .int m, .long q, .long j, .int (own_f (own_c p q) (own_c i j)), .int (own_f (-own_c p q) (-own_c i j)), .int k, .int 1])
def mu (h : Nat) (_ : Array Value) (_ : State) : Nat := if h = 30 then 1 else 0
theorem own_lit5 {A : Array Value} (hs : A.size = K0.length) (hA : own_args K0 A) : ∃ (p i q j : Int64) (m : Int32), A = #[.long p, .long i, .long q, .long j, .int m] := by
  obtain ⟨v0, e0, k0⟩ := hA 0 .long rfl
  obtain ⟨v1, e1, k1⟩ := hA 1 .long rfl
  obtain ⟨v2, e2, k2⟩ := hA 2 .long rfl
  obtain ⟨v3, e3, k3⟩ := hA 3 .long rfl
  obtain ⟨v4, e4, k4⟩ := hA 4 .int rfl
  obtain ⟨p, rfl⟩ := own_long k0
  obtain ⟨i, rfl⟩ := own_long k1
  obtain ⟨q, rfl⟩ := own_long k2
  obtain ⟨j, rfl⟩ := own_long k3
  obtain ⟨m, rfl⟩ := own_int k4
  refine ⟨p, i, q, j, m, ?_⟩
  obtain ⟨L⟩ := A
  match L, hs with
  | [a, b, c, d, e], _ =>
    cases Option.some.inj e0; cases Option.some.inj e1; cases Option.some.inj e2; cases Option.some.inj e3; cases Option.some.inj e4
    rfl
theorem own_a30 (p i q0 j0 q j : Int64) (m : Int32) : own_args K30 #[.long p, .long i, .long q0, .long j0, .int m, .long q, .long j] := by
  intro n k hk
  match n, hk with
  | 0, rfl => exact ⟨_, rfl, rfl⟩
  | 1, rfl => exact ⟨_, rfl, rfl⟩
  | 2, rfl => exact ⟨_, rfl, rfl⟩
  | 3, rfl => exact ⟨_, rfl, rfl⟩
  | 4, rfl => exact ⟨_, rfl, rfl⟩
  | 5, rfl => exact ⟨_, rfl, rfl⟩
  | 6, rfl => exact ⟨_, rfl, rfl⟩
  | n + 7, hk => simp [K30] at hk
theorem own_a110 (p i q0 j0 q j : Int64) (m f b k e : Int32) : own_args K110 #[.long p, .long i, .long q0, .long j0, .int m, .long q, .long j, .int f, .int b, .int k, .int e] := by
  intro n k hk
  match n, hk with
  | 0, rfl => exact ⟨_, rfl, rfl⟩
  | 1, rfl => exact ⟨_, rfl, rfl⟩
  | 2, rfl => exact ⟨_, rfl, rfl⟩
  | 3, rfl => exact ⟨_, rfl, rfl⟩
  | 4, rfl => exact ⟨_, rfl, rfl⟩
  | 5, rfl => exact ⟨_, rfl, rfl⟩
  | 6, rfl => exact ⟨_, rfl, rfl⟩
  | 7, rfl => exact ⟨_, rfl, rfl⟩
  | 8, rfl => exact ⟨_, rfl, rfl⟩
  | 9, rfl => exact ⟨_, rfl, rfl⟩
  | 10, rfl => exact ⟨_, rfl, rfl⟩
  | n + 11, hk => simp [K110] at hk
/-- from 30 to 110: whatever the two pairs, 'exactly one' comes out 1 -/
theorem own_leaf30 (p i q0 j0 q j : Int64) (m : Int32) (u : State) :
    ∃ k : Int32, own_leaf #[.long p, .long i, .long q0, .long j0, .int m, .long q, .long j] u t30 = some (.cut (x110 k 1)) := by
  have e0 : (Term.arg 0).eval #[.long p, .long i, .long q0, .long j0, .int m, .long q, .long j] u none [] u = some (.long p) := rfl
  have e1 : (Term.arg 1).eval #[.long p, .long i, .long q0, .long j0, .int m, .long q, .long j] u none [] u = some (.long i) := rfl
  have e5 : (Term.arg 5).eval #[.long p, .long i, .long q0, .long j0, .int m, .long q, .long j] u none [] u = some (.long q) := rfl
  have e6 : (Term.arg 6).eval #[.long p, .long i, .long q0, .long j0, .int m, .long q, .long j] u none [] u = some (.long j) := rfl
  generalize (#[.long p, .long i, .long q0, .long j0, .int m, .long q, .long j] : Array Value) = A at *
  have eF : F.eval A u none [] u = some (.int (own_f (own_c p q) (own_c i j))) := own_eM e0 e1 e5 e6
  have eB : B.eval A u none [] u = some (.int (own_f (-own_c p q) (-own_c i j))) := by rw [← own_c_swap, ← own_c_swap]; exact own_eM e5 e6 e0 e1
  have gA : GA.value A u none u [] = some (!decide (own_c p q = 0)) := not_value (Cond.eq_ints (a := .old (tC (.arg 0) (.arg 5))) (own_eC e0 e5) rfl)
  have gB : GB.value A u none u [] = some (!decide (own_c i j = 0)) := not_value (Cond.eq_ints (a := .old (tC (.arg 1) (.arg 6))) (own_eC e1 e6) rfl)
  have gk : ∀ k : Int32, (Gk k).value A u none u [] = some (decide (k = 0)) := fun k => Cond.eq_ints rfl rfl
  have gE : GE.value A u none u [] = some (decide (own_f (own_c p q) (own_c i j) = own_f (-own_c p q) (-own_c i j))) := Cond.eq_ints (a := .old F) (b := .old B) eF eB
  have gNF : (GN F).value A u none u [] = some (!decide (own_f (own_c p q) (own_c i j) = 0)) := not_value (Cond.eq_ints (a := .old F) eF rfl)
  have gNB : (GN B).value A u none u [] = some (!decide (own_f (-own_c p q) (-own_c i j) = 0)) := not_value (Cond.eq_ints (a := .old B) eB rfl)
  have c110 : ∀ k e : Int32, own_leaf A u (.cut (x110 k e)) = some (.cut (x110 k e)) := fun _ _ => rfl
  have h1 := own_c3 p q
  have h2 := own_c3 i j
  unfold t30 tK
  rw [own_lfork gA, own_lfork gB]
  simp only [own_lfork (gk _), own_lfork gE, own_lfork gNF, own_lfork gNB, c110]
  generalize own_c p q = c at *
  generalize own_c i j = d at *
  rcases h1 with rfl | rfl | rfl <;> rcases h2 with rfl | rfl | rfl <;> first | exact ⟨0, rfl⟩ | exact ⟨1, rfl⟩
/-- from 110 to the end -/
theorem own_value110 (p i q0 j0 q j : Int64) (m k : Int32) (u : State) :
    Kit.valueOf #[.long p, .long i, .long q0, .long j0, .int m, .long q, .long j, .int (own_f (own_c p q) (own_c i j)), .int (own_f (-own_c p q) (-own_c i j)), .int k, .int 1] u t110 = some (.int 1) := by
  have e0 : (Term.arg 0).eval #[.long p, .long i, .long q0, .long j0, .int m, .long q, .long j, .int (own_f (own_c p q) (own_c i j)), .int (own_f (-own_c p q) (-own_c i j)), .int k, .int 1] u none [] u = some (.long p) := rfl
  have e1 : (Term.arg 1).eval #[.long p, .long i, .long q0, .long j0, .int m, .long q, .long j, .int (own_f (own_c p q) (own_c i j)), .int (own_f (-own_c p q) (-own_c i j)), .int k, .int 1] u none [] u = some (.long i) := rfl
  have e5 : (Term.arg 5).eval #[.long p, .long i, .long q0, .long j0, .int m, .long q, .long j, .int (own_f (own_c p q) (own_c i j)), .int (own_f (-own_c p q) (-own_c i j)), .int k, .int 1] u none [] u = some (.long q) := rfl
  have e6 : (Term.arg 6).eval #[.long p, .long i, .long q0, .long j0, .int m, .long q, .long j, .int (own_f (own_c p q) (own_c i j)), .int (own_f (-own_c p q) (-own_c i j)), .int k, .int 1] u none [] u = some (.long j) := rfl
  have e7 : (Term.old (.arg 7)).eval #[.long p, .long i, .long q0, .long j0, .int m, .long q, .long j, .int (own_f (own_c p q) (own_c i j)), .int (own_f (-own_c p q) (-own_c i j)), .int k, .int 1] u none [] u = some (.int (own_f (own_c p q) (own_c i j))) := rfl
  have e8 : (Term.old (.arg 8)).eval #[.long p, .long i, .long q0, .long j0, .int m, .long q, .long j, .int (own_f (own_c p q) (own_c i j)), .int (own_f (-own_c p q) (-own_c i j)), .int k, .int 1] u none [] u = some (.int (own_f (-own_c p q) (-own_c i j))) := rfl
  have e10 : (Term.old (.arg 10)).eval #[.long p, .long i, .long q0, .long j0, .int m, .long q, .long j, .int (own_f (own_c p q) (own_c i j)), .int (own_f (-own_c p q) (-own_c i j)), .int k, .int 1] u none [] u = some (.int 1) := rfl
  generalize (#[.long p, .long i, .long q0, .long j0, .int m, .long q, .long j, .int (own_f (own_c p q) (own_c i j)), .int (own_f (-own_c p q) (-own_c i j)), .int k, .int 1] : Array Value) = A at *
  have eF : F.eval A u none [] u = some (.int (own_f (own_c p q) (own_c i j))) := own_eM e0 e1 e5 e6
  have eB : B.eval A u none [] u = some (.int (own_f (-own_c p q) (-own_c i j))) := by rw [← own_c_swap, ← own_c_swap]; exact own_eM e5 e6 e0 e1
  have gF : (GX (.arg 7) F).value A u none u [] = some false := by
    have h : (GX (.arg 7) F).value A u none u [] = some (!decide (own_f (own_c p q) (own_c i j) = own_f (own_c p q) (own_c i j))) := not_value (Cond.eq_ints (b := .old F) e7 eF)
    rw [h]; simp
  have gB : (GX (.arg 8) B).value A u none u [] = some false := by
    have h : (GX (.arg 8) B).value A u none u [] = some (!decide (own_f (-own_c p q) (-own_c i j) = own_f (-own_c p q) (-own_c i j))) := not_value (Cond.eq_ints (b := .old B) e8 eB)
    rw [h]; simp
  have ge : Ge.value A u none u [] = some (decide ((1 : Int32) = 0)) := Cond.eq_ints e10 rfl
  have r1 : Kit.valueOf A u (R 1) = some (.int 1) := rfl
  unfold t110
  rw [own_fork gF, own_fork gB, own_fork ge, r1]
  rfl
theorem met_1 (l : Launch) : MeetsLoose l x (armSpec x code maxLocals ret tables_1 room_1 .tt (.and given_1 narrow_1) (.and limb_1_1 limb_1_2) frame_1_writes frame_1_arrays frame_1_statics) := by
  obtain ⟨tb0, nd0, hw0, ht0, hn0⟩ := own_out own_c0
  obtain ⟨tb30, nd30, hw30, ht30, hn30⟩ := own_out own_c30
  obtain ⟨tb110, nd110, hw110, ht110, hn110⟩ := own_out own_c110
  have hs : ((Cond.count K0.length :: sorts 0 K0).all fun q => (flatC (Cond.and given_1 narrow_1)).contains q) = true := by decide +kernel
  refine loops_meets (I := I) (ks0 := K0) (cuts := [30, 110]) (n0 := 400) (by decide) rfl rfl rfl rfl rfl (fun args s h => ?_) hw0 ksOf J mu (fun args s h => ?_) (fun args s h hd ks hks => ?_) (callsOk l)
  · simp only [armSpec, allAtoms, List.foldr_cons, Cond.before_and, Bool.and_eq_true] at h; exact h.1.1
  · have hts : (allAtoms (Cond.code x code maxLocals ret :: tables_1)).before args s = true := by simp only [armSpec, Cond.before_and, Bool.and_eq_true] at h; exact h.1
    have hg : (Cond.and given_1 narrow_1).before args s = true := by simp only [armSpec, Cond.before_and, Bool.and_eq_true] at h ⊢; exact h.2.2
    have hall : ∀ q ∈ Cond.count K0.length :: sorts 0 K0, q.before args s = true := fun q hq => flat_of_before _ hg q (List.contains_iff_mem.mp (List.all_eq_true.mp hs q hq))
    have hcount : args.size = K0.length := by
      have h1 := hall _ List.mem_cons_self
      simpa [Cond.before, Cond.holds, Cond.value] using h1
    have hsorts : ∀ q ∈ sorts 0 K0, q.before args s = true := fun q hq => hall q (List.mem_cons_of_mem _ hq)
    have hA := own_args_of hsorts
    refine ⟨hcount, hsorts, own_tabs hts ht0, own_needs hA (own_T_at rfl hts) hn0, ?_⟩
    obtain ⟨p, i, q, j, m, rfl⟩ := own_lit5 hcount hA
    have lf : ∀ (Q J' : Term) (q' j' : Int64), Q.eval #[.long p, .long i, .long q, .long j, .int m] s none [] s = some (.long q') → J'.eval #[.long p, .long i, .long q, .long j, .int m] s none [] s = some (.long j') →
        QCuts s.vm (· ∈ (armSpec x code maxLocals ret tables_1 room_1 .tt (.and given_1 narrow_1) (.and limb_1_1 limb_1_2) frame_1_writes frame_1_arrays frame_1_statics).frees frame_1_writes #[.long p, .long i, .long q, .long j, .int m] s) #[.long p, .long i, .long q, .long j, .int m] s ksOf maxLocals (J #[.long p, .long i, .long q, .long j, .int m] s) (x30 Q J') := by
      intro Q J' q' j' eQ eJ
      refine ⟨K30, rfl, rfl, rfl, fun _ hx => (by cases hx), [⟨.arg 0, .long⟩, ⟨.arg 1, .long⟩, ⟨.arg 2, .long⟩, ⟨.arg 3, .long⟩, ⟨.arg 4, .int⟩, ⟨Q, .long⟩, ⟨J', .long⟩], rfl, rfl, fun vs hd u' _ _ => Or.inl ⟨rfl, p, i, q, j, q', j', m, ?_⟩⟩
      have e := own_vals (ws := [.long p, .long i, .long q, .long j, .int m, .long q', .long j']) hd (by
        simp only [List.map_cons, List.map_nil, eQ, eJ]; rfl)
      rw [e]
    exact ⟨fun _ => ⟨fun _ => lf _ _ q j rfl rfl, fun _ => lf _ _ q i rfl rfl⟩, fun _ => ⟨fun _ => lf _ _ p j rfl rfl, fun _ => lf _ _ p i rfl rfl⟩⟩
  · have hts : (allAtoms (Cond.code x code maxLocals ret :: tables_1)).before args s = true := by simp only [armSpec, Cond.before_and, Bool.and_eq_true] at h; exact h.1
    by_cases h30 : hd = 30
    · subst h30
      obtain rfl : K30 = ks := Option.some.inj hks
      refine ⟨400, t30, tb30, nd30, hw30, fun A u hvm hJ => ?_⟩
      rcases hJ with ⟨-, p, i, q0, j0, q, j, m, rfl⟩ | ⟨h', -⟩
      · refine ⟨own_tabs hts ht30, own_needs (own_a30 p i q0 j0 q j m) (own_T_at hvm hts) hn30, ?_⟩
        obtain ⟨k, hk⟩ := own_leaf30 p i q0 j0 q j m u
        refine own_vc _ _ hk ?_
        refine ⟨K110, rfl, rfl, rfl, fun _ hx => (by cases hx), [⟨.arg 0, .long⟩, ⟨.arg 1, .long⟩, ⟨.arg 2, .long⟩, ⟨.arg 3, .long⟩, ⟨.arg 4, .int⟩, ⟨.arg 5, .long⟩, ⟨.arg 6, .long⟩, ⟨F, .int⟩, ⟨B, .int⟩, ⟨.int k, .int⟩, ⟨.int 1, .int⟩], rfl, rfl, fun vs hd u' _ _ => ⟨Or.inr ⟨rfl, p, i, q0, j0, q, j, m, k, ?_⟩, by simp [mu, x110]⟩⟩
        have eF : F.eval #[.long p, .long i, .long q0, .long j0, .int m, .long q, .long j] u none [] u = some (.int (own_f (own_c p q) (own_c i j))) := own_eM rfl rfl rfl rfl
        have eB : B.eval #[.long p, .long i, .long q0, .long j0, .int m, .long q, .long j] u none [] u = some (.int (own_f (-own_c p q) (-own_c i j))) := by rw [← own_c_swap, ← own_c_swap]; exact own_eM rfl rfl rfl rfl
        have e := own_vals (ws := [.long p, .long i, .long q0, .long j0, .int m, .long q, .long j, .int (own_f (own_c p q) (own_c i j)), .int (own_f (-own_c p q) (-own_c i j)), .int k, .int 1]) hd (by
          simp only [List.map_cons, List.map_nil, eF, eB]; rfl)
        rw [e]
      · exact absurd h' (by decide)
    · by_cases h110 : hd = 110
      · subst h110
        obtain rfl : K110 = ks := Option.some.inj hks
        refine ⟨400, t110, tb110, nd110, hw110, fun A u hvm hJ => ?_⟩
        rcases hJ with ⟨h', -⟩ | ⟨-, p, i, q0, j0, q, j, m, k, rfl⟩
        · exact absurd h' (by decide)
        · refine ⟨own_tabs hts ht110, own_needs (own_a110 p i q0 j0 q j m _ _ k 1) (own_T_at hvm hts) hn110, Kit.vc_of_value (w₀ := .int 1) (fun E => ?_) t110 (by decide +kernel) (own_value110 p i q0 j0 q j m k u)⟩
          simp [armSpec, limb_1_1, limb_1_2, Cond.after, Cond.holds, Cond.value, Term.eval]
      · rw [ksOf, if_neg h30, if_neg h110] at hks
        cases hks
theorem main_1_1 : Claimed_1_1 := own_lim1 met_1
theorem main_1_2 : Claimed_1_2 := own_lim2 met_1
end Jvm.Pilot.@@N@@
namespace Jvm.Pilot.@@N@@
open Jvm Jvm.ClassFile Sem Op Lib Jvm.Free Jvm.Stand Jvm.Pilot.@@N@@.Jvm.D
/-! MADE BY PROGRAM (witnessworld.py) out of the Statement's table words and the real class files: 9 classes; the members and pool entries that the words name. The judged class is class 1, her method 2. -/
namespace start1
open Jvm.ClassFile
def u (s : String) : CpInfo := .utf8 (stringToUtf16 s)
/-- a pool by its gaps: so many unusable entries, then the entry; so many at the end -/
def gap : Nat → List CpInfo → List CpInfo
  | 0, r => r
  | n + 1, r => .unusable :: gap n r
def poolList (es : List (Nat × CpInfo)) (last : Nat) : List CpInfo := es.foldr (fun e r => gap e.1 (e.2 :: r)) (gap last [])
def pool (es : List (Nat × CpInfo)) (last : Nat) : Array CpInfo := ⟨poolList es last⟩
def fileOf (pool : Array CpInfo) (this : Nat) (attrs : Array Attribute := #[]) (ms : Array MethodInfo := #[]) (fl : Nat := 33) (sup : Nat := 0) (ifs : Array Nat := #[]) (fds : Array FieldInfo := #[]) : ClassFile where
  minorVersion := 0
  majorVersion := 65
  constantPool := pool
  accessFlags := fl
  thisClass := this
  superClass := sup
  interfaces := ifs
  fields := fds
  methods := ms
  attributes := attrs
def plain (name : String) (sup : Option ClassId) : Class where
  name := name
  kind := .ordinary
  loader := none
  accessFlags := 33
  super := sup
  interfaces := #[]
  cf := none
  fields := #[]
  methods := #[]
  instanceTypes := #[]
  staticTypes := #[]
  resolved := #[]
  callSites := []
  init := .initialized
  statics := none
  mirror := none

def pool0 : Array CpInfo := pool [(5, u "<init>"), (0, u "()V"), (1, .class_ 10), (1, u "java/lang/Object")] 113

def k0m0 : Method := { name := "<init>", desc := "()V", sig := { parameters := [], returnType := none }, accessFlags := 1, code := none }
/-- java/lang/Object -/
def k0 : Class := { plain "java/lang/Object" none with
  accessFlags := 33
  interfaces := #[]
  cf := some (fileOf pool0 8 #[] #[{ accessFlags := 1, nameIndex := 5, descriptorIndex := 6, attributes := #[] }] 33 0 #[] #[])
  fields := #[]
  methods := #[k0m0]
  instanceTypes := #[]
  staticTypes := #[]
  resolved := Array.replicate 124 none
  statics := none }

def pool1 : Array CpInfo := pool [(2, .class_ 4), (1, u "java/lang/Object"), (0, u "<init>"), (0, u "()V"), (0, .methodref 8 9), (0, .class_ 10), (0, .nameAndType 11 12), (0, u "com/example/pipefish/pipefish/core/WatchList"), (0, u "goesBefore"), (0, u "(JJJJ)Z"), (0, .methodref 14 15), (0, .class_ 16), (0, .nameAndType 17 12), (0, u "com/example/pipefish/pipefish/core/WatchListGoesBeforePinLaw"), (0, u "lex"), (3, u "law"), (0, u "(JJJJI)Z")] 2

def k1m0 : Method := { name := "<init>", desc := "()V", sig := { parameters := [], returnType := none }, accessFlags := 2, code := none }
def k1c1 : Code := { maxStack := 4, maxLocals := 8, code := method_2_code, exceptionTable := #[], attributes := #[] }
def k1m1 : Method := { name := "lex", desc := "(JJJJ)Z", sig := { parameters := [.long, .long, .long, .long], returnType := some .boolean }, accessFlags := 10, code := some k1c1 }
def k1c2 : Code := { maxStack := 9, maxLocals := 17, code := code, exceptionTable := #[], attributes := #[] }
def k1m2 : Method := { name := "law", desc := "(JJJJI)Z", sig := { parameters := [.long, .long, .long, .long, .int], returnType := some .boolean }, accessFlags := 9, code := some k1c2 }
/-- com/example/pipefish/pipefish/core/WatchListGoesBeforePinLaw -/
def k1 : Class := { plain "com/example/pipefish/pipefish/core/WatchListGoesBeforePinLaw" (some 0) with
  accessFlags := 49
  interfaces := #[]
  cf := some (fileOf pool1 14 #[] #[{ accessFlags := 2, nameIndex := 5, descriptorIndex := 6, attributes := #[] }, { accessFlags := 10, nameIndex := 17, descriptorIndex := 12, attributes := #[] }, { accessFlags := 9, nameIndex := 21, descriptorIndex := 22, attributes := #[] }] 49 2 #[] #[])
  fields := #[]
  methods := #[k1m0, k1m1, k1m2]
  instanceTypes := #[]
  staticTypes := #[]
  resolved := Array.replicate 25 none
  statics := none }

def pool2 : Array CpInfo := pool [(2, .class_ 4), (1, u "java/lang/Object"), (6, .class_ 13), (1, u "com/example/pipefish/pipefish/core/WatchList"), (0, u "listed"), (0, u "Lcom/example/pipefish/pipefish/core/SetHeap;"), (5, u "waiting"), (0, u "Ljava/util/Set;"), (2, u "tubes"), (2, u "jobs"), (0, u "Lcom/example/pipefish/pipefish/core/JobTable;"), (6, .class_ 37), (0, u "com/example/pipefish/pipefish/core/WatchList$Member"), (2, u "members"), (0, u "[Lcom/example/pipefish/pipefish/core/WatchList$Member;"), (32, u "clients"), (0, u "I"), (75, u "goesBefore"), (0, u "(JJJJ)Z")] 8

def k2c0 : Code := { maxStack := 4, maxLocals := 8, code := prog_26_method_12_code, exceptionTable := #[], attributes := #[] }
def k2m0 : Method := { name := "goesBefore", desc := "(JJJJ)Z", sig := { parameters := [.long, .long, .long, .long], returnType := some .boolean }, accessFlags := 8, code := some k2c0 }
/-- com/example/pipefish/pipefish/core/WatchList -/
def k2 : Class := { plain "com/example/pipefish/pipefish/core/WatchList" (some 0) with
  accessFlags := 32
  interfaces := #[]
  cf := some (fileOf pool2 11 #[.nestMembers #[36]] #[{ accessFlags := 8, nameIndex := 151, descriptorIndex := 152, attributes := #[] }] 32 2 #[] #[{ accessFlags := 18, nameIndex := 25, descriptorIndex := 22, attributes := #[] }, { accessFlags := 18, nameIndex := 28, descriptorIndex := 29, attributes := #[] }, { accessFlags := 2, nameIndex := 40, descriptorIndex := 41, attributes := #[] }, { accessFlags := 18, nameIndex := 14, descriptorIndex := 15, attributes := #[] }, { accessFlags := 18, nameIndex := 21, descriptorIndex := 22, attributes := #[] }, { accessFlags := 2, nameIndex := 74, descriptorIndex := 75, attributes := #[] }])
  fields := #[{ name := "tubes", type := (.object "java/util/Set"), accessFlags := 18, slot := 0, constantValue := 0 }, { name := "jobs", type := (.object "com/example/pipefish/pipefish/core/JobTable"), accessFlags := 18, slot := 1, constantValue := 0 }, { name := "members", type := (.array (.object "com/example/pipefish/pipefish/core/WatchList$Member")), accessFlags := 2, slot := 2, constantValue := 0 }, { name := "listed", type := (.object "com/example/pipefish/pipefish/core/SetHeap"), accessFlags := 18, slot := 3, constantValue := 0 }, { name := "waiting", type := (.object "java/util/Set"), accessFlags := 18, slot := 4, constantValue := 0 }, { name := "clients", type := .int, accessFlags := 2, slot := 5, constantValue := 0 }]
  methods := #[k2m0]
  instanceTypes := #[(.object "java/util/Set"), (.object "com/example/pipefish/pipefish/core/JobTable"), (.array (.object "com/example/pipefish/pipefish/core/WatchList$Member")), (.object "com/example/pipefish/pipefish/core/SetHeap"), (.object "java/util/Set"), .int]
  staticTypes := #[]
  resolved := Array.replicate 161 none
  statics := none }

def pool3 : Array CpInfo := pool [(1, u "java/lang/Cloneable"), (0, .class_ 1), (0, u "java/lang/Object"), (0, .class_ 3)] 3

/-- java/lang/Cloneable -/
def k3 : Class := { plain "java/lang/Cloneable" (some 0) with
  accessFlags := 1537
  interfaces := #[]
  cf := some (fileOf pool3 2 #[] #[] 1537 4 #[] #[])
  fields := #[]
  methods := #[]
  instanceTypes := #[]
  staticTypes := #[]
  resolved := Array.replicate 8 none
  statics := none }

def pool4 : Array CpInfo := pool [(1, u "java/io/Serializable"), (0, .class_ 1), (0, u "java/lang/Object"), (0, .class_ 3)] 3

/-- java/io/Serializable -/
def k4 : Class := { plain "java/io/Serializable" (some 0) with
  accessFlags := 1537
  interfaces := #[]
  cf := some (fileOf pool4 2 #[] #[] 1537 4 #[] #[])
  fields := #[]
  methods := #[]
  instanceTypes := #[]
  staticTypes := #[]
  resolved := Array.replicate 8 none
  statics := none }

/-- the primitive byte -/
def k5 : Class := { plain "byte" none with kind := .primitive 'B', accessFlags := 0x411 }
/-- [B -/
def k6 : Class := { plain "[B" (some 0) with kind := .array 5 .byte, interfaces := #[3, 4], accessFlags := 1041 }

/-- the primitive int -/
def k7 : Class := { plain "int" none with kind := .primitive 'I', accessFlags := 0x411 }
/-- [I -/
def k8 : Class := { plain "[I" (some 0) with kind := .array 7 .int, interfaces := #[3, 4], accessFlags := 1041 }

def heap : Heap := #[]
def classes : Array Class := #[k0, k1, k2, k3, k4, k5, k6, k7, k8]
def interned : List (Array UInt16 × Addr) := []
def slotsUsed : Nat := 0
def theMethod : MethodId := ⟨1, 2⟩
def args0 : Array Value := #[.long 5, .long 7, .long 8, .long 9, .int 1]
def aboutOver (below : List Frame) : State where
  vm := { classes := classes, interned := interned.toArray }
  heap := heap
  slotsUsed := slotsUsed
  threads := #[{ frames := .invoking theMethod args0 :: below }]
def below0 : List Frame := [.native { method := ⟨0, 0⟩, args := #[] }]
def about1 : State := aboutOver below0
def p0 : Program := .bare "" "" ""
def e0 : Env := launch0.env 0 0 0
theorem w_frames : about1.frames = Frame.invoking theMethod args0 :: below0 := rfl
set_option maxRecDepth 65536 in
theorem w_args : argsFit about1.vm theMethod args0 = true := by decide +kernel
set_option maxRecDepth 65536 in
theorem w_heap : heapFits about1 = true := by decide +kernel
set_option maxRecDepth 65536 in
theorem w_runnable : about1.curStatus? = some .runnable := by decide +kernel
set_option maxRecDepth 65536 in
theorem w_alone : about1.alone = true := by decide +kernel
set_option maxRecDepth 65536 in
theorem w_named : about1.methodNamed? x = some theMethod := by decide +kernel
set_option maxRecDepth 65536 in
theorem w_hears : about1.hears theMethod below0 = true := by decide +kernel
set_option maxRecDepth 65536 in
theorem w_ripe : about1.ripe theMethod args0 below0 = true := by decide +kernel
theorem w_running : about1.status = .running := rfl
set_option maxRecDepth 65536 in
theorem w_room : about1.hasRoom e0.platform room_1 = true :=
  launch0.hasRoom_least _ room_1 (by decide +kernel) (by decide +kernel) (by decide +kernel) (by decide +kernel) (by decide +kernel) (by decide +kernel)
theorem allAtoms_all (ts : List Jvm.Cond) (a : Array Jvm.Value) (st : Jvm.State) : (allAtoms ts).before a st = ts.all (fun c => c.before a st) := by
  induction ts with
  | nil => rfl
  | cons c t ih =>
    show (Jvm.Cond.and c (allAtoms t)).before a st = _
    rw [Jvm.Cond.before_and, ih, List.all_cons]
def words1 : List Jvm.Cond := Jvm.Cond.code x code maxLocals ret :: tables_1
/-- a 'code' word, met by the world's own term for the bytes: nothing is compared byte by byte -/
theorem code_word {y : MethodName} {bytes : ByteArray} {mx : Nat} {rt : Option FieldType} {a : Array Value} {s : State} {m : MethodId} {meth : Method} {c : Code} (h1 : s.methodNamed? y = some m) (h2 : s.vm.method? m = some meth) (h3 : meth.code = some c) (h4 : c.code = bytes)
    (h5 : (c.maxLocals == mx && c.exceptionTable.isEmpty && decide (c.maxStack ≤ mostOperands) && decide (meth.sig.returnType = rt) && !meth.locks && decide (parseMethodDescriptor y.desc = some meth.sig)) = true) : (Jvm.Cond.code y bytes mx rt).before a s = true := by
  simp only [Bool.and_eq_true, beq_iff_eq, Bool.not_eq_true', decide_eq_true_eq] at h5
  obtain ⟨⟨⟨⟨⟨g1, g2⟩, g3⟩, g4⟩, g5⟩, g6⟩ := h5
  simp [Cond.before, Cond.holds, Cond.value, h1, h2, h3, h4, g1, g2, g3, g4, g5, g6]
def isCode : Jvm.Cond → Bool
  | .code _ _ _ _ => true
  | _ => false
theorem all_split {L : List Jvm.Cond} {P : Jvm.Cond → Bool} (h1 : L.all (fun c => isCode c || P c) = true) (h2 : ∀ c ∈ L.filter isCode, P c = true) : L.all P = true := by
  refine List.all_eq_true.mpr fun c hc => ?_
  have h := List.all_eq_true.mp h1 c hc
  rcases Bool.eq_false_or_eq_true (isCode c) with hi | hi
  · exact h2 c (List.mem_filter.mpr ⟨hc, hi⟩)
  · simpa [hi] using h
set_option maxRecDepth 65536 in
theorem w_c0 : (Jvm.Cond.code x code maxLocals ret).before args0 about1 = true := code_word (m := ⟨1, 2⟩) (meth := k1m2) (c := k1c2) (by decide +kernel) rfl rfl rfl (by decide +kernel)
set_option maxRecDepth 65536 in
theorem w_c1 : (Jvm.Cond.code ({ cls := "com/example/pipefish/pipefish/core/WatchList", name := "goesBefore", desc := "(JJJJ)Z" } : Jvm.MethodName) prog_26_method_12_code (8 : Nat) (Option.some Jvm.ClassFile.FieldType.boolean)).before args0 about1 = true := code_word (m := ⟨2, 0⟩) (meth := k2m0) (c := k2c0) (by decide +kernel) rfl rfl rfl (by decide +kernel)
set_option maxRecDepth 65536 in
theorem w_c2 : (Jvm.Cond.code ({ cls := "com/example/pipefish/pipefish/core/WatchListGoesBeforePinLaw", name := "lex", desc := "(JJJJ)Z" } : Jvm.MethodName) method_2_code (8 : Nat) (Option.some Jvm.ClassFile.FieldType.boolean)).before args0 about1 = true := code_word (m := ⟨1, 1⟩) (meth := k1m1) (c := k1c1) (by decide +kernel) rfl rfl rfl (by decide +kernel)
def codes1 : List Jvm.Cond := [Jvm.Cond.code x code maxLocals ret, Jvm.Cond.code ({ cls := "com/example/pipefish/pipefish/core/WatchList", name := "goesBefore", desc := "(JJJJ)Z" } : Jvm.MethodName) prog_26_method_12_code (8 : Nat) (Option.some Jvm.ClassFile.FieldType.boolean), Jvm.Cond.code ({ cls := "com/example/pipefish/pipefish/core/WatchListGoesBeforePinLaw", name := "lex", desc := "(JJJJ)Z" } : Jvm.MethodName) method_2_code (8 : Nat) (Option.some Jvm.ClassFile.FieldType.boolean)]
set_option maxRecDepth 65536 in
theorem codes_eq : words1.filter isCode = codes1 := rfl
theorem w_codes : ∀ c ∈ words1.filter isCode, c.before args0 about1 = true := by
  rw [codes_eq]
  intro c hc
  simp only [codes1, List.mem_cons, List.not_mem_nil, or_false] at hc
  rcases hc with rfl | rfl | rfl
  · exact w_c0
  · exact w_c1
  · exact w_c2
set_option maxRecDepth 65536 in
theorem w_t1 : words1.all (fun c => isCode c || c.before args0 about1) = true := by decide +kernel
theorem w_tables : (allAtoms (Jvm.Cond.code x code maxLocals ret :: tables_1)).before args0 about1 = true := by
  rw [allAtoms_all]
  show words1.all (fun c => c.before args0 about1) = true
  refine all_split ?_ w_codes
  rw [w_t1]
set_option maxRecDepth 65536 in
theorem w_case : (Jvm.Cond.and given_1 narrow_1).before args0 about1 = true := by decide +kernel
theorem w_applies : (headSpec (Jvm.Cond.code x code maxLocals ret :: tables_1) room_1).applies x e0.platform about1 = true :=
  (Spec.applies_iff w_frames).mpr ⟨w_running, w_runnable, w_alone, w_named, w_hears, w_ripe, w_room, w_tables⟩
theorem atStart : AtStart classFile x code maxLocals ret World_1 tables_1 room_1 Calls_1 rest_1 Pre_1 launch0 p0 e0 about1 theMethod args0 below0 :=
  ⟨lists_1, trivial, launch0.admits_env _ _ _, launch0.least_env, fairChoices_fair.cas, fairChoices_fair.clock, w_frames, w_args, w_heap, w_applies, trivial, trivial, w_case⟩
end start1
theorem witness_1 : WitnessClaimed_1 := ⟨start1.p0, start1.e0, start1.about1, start1.theMethod, start1.args0, start1.below0, start1.atStart⟩
end Jvm.Pilot.@@N@@
