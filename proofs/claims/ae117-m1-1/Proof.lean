import JvmDerived
import JvmDerived.Pilot.@@N@@Statement
import JvmDerived.Pilot.@@N@@Code
set_option linter.unusedVariables false
set_option linter.unusedSimpArgs false
@@BLOCK:HandJ.lean.txt@@
@@BLOCK:HandW.lean.txt@@
@@BLOCK:HandBits.lean.txt@@
@@BLOCK:SymRun.lean.txt@@
@@BLOCK:RowBasics.lean.txt@@
@@BLOCK:Bridge.lean.txt@@
@@BLOCK:SymKit.lean.txt@@
@@BLOCK:NumsL.lean.txt@@
namespace Jvm.Pilot.@@N@@
open Jvm Jvm.ClassFile Sem Op Jvm.Sym Jvm.Pilot.@@N@@.Jvm.D

/-! OWN LAYER 1: the sort of a term that reads nothing but the arguments; the needs of a walk paid by that sort -/
def own_bin : Binary → Option (VKind × VKind × VKind)
  | .iand => some (.int, .int, .int)
  | .ior => some (.int, .int, .int)
  | .ixor => some (.int, .int, .int)
  | .ishl => some (.int, .int, .int)
  | .ishr => some (.int, .int, .int)
  | .iushr => some (.int, .int, .int)
  | .ladd => some (.long, .long, .long)
  | .lsub => some (.long, .long, .long)
  | .lmul => some (.long, .long, .long)
  | .land => some (.long, .long, .long)
  | .lor => some (.long, .long, .long)
  | .lxor => some (.long, .long, .long)
  | .lshl => some (.long, .int, .long)
  | .lshr => some (.long, .int, .long)
  | .lushr => some (.long, .int, .long)
  | .lcmp => some (.long, .long, .int)
  | _ => none
def own_un : Unary → Option (VKind × VKind)
  | .ineg => some (.int, .int)
  | .i2b => some (.int, .int)
  | .i2c => some (.int, .int)
  | .i2s => some (.int, .int)
  | .lneg => some (.long, .long)
  | .i2l => some (.int, .long)
  | .l2i => some (.long, .int)
  | _ => none
def own_nz : Term → Bool
  | .int v => decide (v ≠ 0)
  | .long v => decide (v ≠ 0)
  | _ => false
def own_ty (ks : List VKind) : Term → Option VKind
  | .arg i => ks[i]?
  | .int _ => some .int
  | .long _ => some .long
  | .old t => own_ty ks t
  | .add a b => if own_ty ks a = some .int ∧ own_ty ks b = some .int then some .int else none
  | .sub a b => if own_ty ks a = some .int ∧ own_ty ks b = some .int then some .int else none
  | .mul a b => if own_ty ks a = some .int ∧ own_ty ks b = some .int then some .int else none
  | .div a b => if own_ty ks a = some .int ∧ own_ty ks b = some .int ∧ own_nz b = true then some .int else none
  | .rem a b => if own_ty ks a = some .int ∧ own_ty ks b = some .int ∧ own_nz b = true then some .int else none
  | .op2 o a b => match own_bin o with
    | some q => if own_ty ks a = some q.1 ∧ own_ty ks b = some q.2.1 then some q.2.2 else none
    | none => if o = .ldiv ∧ own_ty ks a = some .long ∧ own_ty ks b = some .long ∧ own_nz b = true then some .long else none
  | .op1 o a => match own_un o with
    | some q => if own_ty ks a = some q.1 then some q.2 else none
    | none => none
  | _ => none
def own_args (ks : List VKind) (A : Array Value) : Prop := ∀ (i : Nat) (k : VKind), ks[i]? = some k → ∃ v : Value, A[i]? = some v ∧ k.ok v = true
theorem own_int {v : Value} (h : VKind.int.ok v = true) : ∃ n, v = .int n := by
  cases v <;> first | exact ⟨_, rfl⟩ | exact Bool.noConfusion h
theorem own_long {v : Value} (h : VKind.long.ok v = true) : ∃ n, v = .long n := by
  cases v <;> first | exact ⟨_, rfl⟩ | exact Bool.noConfusion h
theorem own_bin_sound {o : Binary} {q : VKind × VKind × VKind} (h : own_bin o = some q) {va vb : Value} (ha : q.1.ok va = true) (hb : q.2.1.ok vb = true) : ∃ v, o.apply va vb = some v ∧ q.2.2.ok v = true := by
  cases o <;> simp only [own_bin, Option.some.injEq, reduceCtorEq] at h <;> subst h <;> first
    | (obtain ⟨x, rfl⟩ := own_int ha; obtain ⟨y, rfl⟩ := own_int hb; exact ⟨_, rfl, rfl⟩)
    | (obtain ⟨x, rfl⟩ := own_long ha; obtain ⟨y, rfl⟩ := own_long hb; exact ⟨_, rfl, rfl⟩)
    | (obtain ⟨x, rfl⟩ := own_long ha; obtain ⟨y, rfl⟩ := own_int hb; exact ⟨_, rfl, rfl⟩)
theorem own_un_sound {o : Unary} {q : VKind × VKind} (h : own_un o = some q) {va : Value} (ha : q.1.ok va = true) : ∃ v, o.apply va = some v ∧ q.2.ok v = true := by
  cases o <;> simp only [own_un, Option.some.injEq, reduceCtorEq] at h <;> subst h <;> first
    | (obtain ⟨x, rfl⟩ := own_int ha; exact ⟨_, rfl, rfl⟩)
    | (obtain ⟨x, rfl⟩ := own_long ha; exact ⟨_, rfl, rfl⟩)
theorem own_ty_sound {ks : List VKind} {A : Array Value} (hA : own_args ks A) (t : Term) : ∀ k, own_ty ks t = some k → ∀ (first : State) (o : Option Outcome) (idx : List Nat) (s : State), ∃ v, t.eval A first o idx s = some v ∧ k.ok v = true := by
  induction t with
  | arg i => intro k h first o idx s; exact hA i k h
  | int v => intro k h first o idx s; cases h; exact ⟨_, rfl, rfl⟩
  | long v => intro k h first o idx s; cases h; exact ⟨_, rfl, rfl⟩
  | old t ih => intro k h first o idx s; exact ih k h first o idx first
  | add a b iha ihb | sub a b iha ihb | mul a b iha ihb =>
    intro k h first o idx s
    simp only [own_ty] at h
    split at h
    · rename_i hk
      cases h
      obtain ⟨va, ea, oa⟩ := iha _ hk.1 first o idx s
      obtain ⟨vb, eb, ob⟩ := ihb _ hk.2 first o idx s
      obtain ⟨x, rfl⟩ := own_int oa
      obtain ⟨y, rfl⟩ := own_int ob
      first
      | exact ⟨.int (x + y), by simp only [Term.eval, ea, eb]; rfl, rfl⟩
      | exact ⟨.int (x - y), by simp only [Term.eval, ea, eb]; rfl, rfl⟩
      | exact ⟨.int (x * y), by simp only [Term.eval, ea, eb]; rfl, rfl⟩
    · cases h
  | div a b iha ihb =>
    intro k h first o idx s
    simp only [own_ty] at h
    split at h
    · rename_i hk
      cases h
      obtain ⟨va, ea, oa⟩ := iha _ hk.1 first o idx s
      obtain ⟨x, rfl⟩ := own_int oa
      cases b with
      | int y =>
        have hy : y ≠ 0 := of_decide_eq_true hk.2.2
        exact ⟨.int (x / y), by simp [Term.eval, ea, hy], rfl⟩
      | long y => cases hk.2.1
      | _ => exact Bool.noConfusion hk.2.2
    · cases h
  | rem a b iha ihb =>
    intro k h first o idx s
    simp only [own_ty] at h
    split at h
    · rename_i hk
      cases h
      obtain ⟨va, ea, oa⟩ := iha _ hk.1 first o idx s
      obtain ⟨x, rfl⟩ := own_int oa
      cases b with
      | int y =>
        have hy : y ≠ 0 := of_decide_eq_true hk.2.2
        exact ⟨.int (x % y), by simp [Term.eval, ea, hy], rfl⟩
      | long y => cases hk.2.1
      | _ => exact Bool.noConfusion hk.2.2
    · cases h
  | op2 f a b iha ihb =>
    intro k h first o idx s
    simp only [own_ty] at h
    split at h
    · rename_i q hq
      split at h
      · rename_i hk
        cases h
        obtain ⟨va, ea, oa⟩ := iha _ hk.1 first o idx s
        obtain ⟨vb, eb, ob⟩ := ihb _ hk.2 first o idx s
        obtain ⟨v, hv, hkv⟩ := own_bin_sound hq oa ob
        exact ⟨v, by simp only [Term.eval, ea, eb]; exact hv, hkv⟩
      · cases h
    · split at h
      · rename_i hk
        cases h
        obtain ⟨rfl, h1, h2, h3⟩ := hk
        obtain ⟨va, ea, oa⟩ := iha _ h1 first o idx s
        obtain ⟨x, rfl⟩ := own_long oa
        cases b with
        | int y => cases h2
        | long y =>
          have hy : y ≠ 0 := of_decide_eq_true h3
          refine ⟨.long (x / y), ?_, rfl⟩
          simp [Term.eval, ea, hy, Binary.apply]
        | _ => exact Bool.noConfusion h3
      · cases h
  | op1 f a iha =>
    intro k h first o idx s
    simp only [own_ty] at h
    split at h
    · rename_i q hq
      split at h
      · rename_i hk
        cases h
        obtain ⟨va, ea, oa⟩ := iha _ hk first o idx s
        obtain ⟨v, hv, hkv⟩ := own_un_sound hq oa
        exact ⟨v, by simp only [Term.eval, ea]; exact hv, hkv⟩
      · cases h
    · cases h
  | _ => intro k h; cases h
def own_cmp (ks : List VKind) (a b : Term) : Bool := decide ((own_ty ks a = some .int ∧ own_ty ks b = some .int) ∨ (own_ty ks a = some .long ∧ own_ty ks b = some .long))
def own_defd (ks : List VKind) : Cond → Bool
  | .eq a b => own_cmp ks a b
  | .lt a b => own_cmp ks a b
  | .le a b => own_cmp ks a b
  | .not c => own_defd ks c
  | _ => false
def own_ok (ks : List VKind) (T : List Cond) : Cond → Bool
  | .tt => true
  | .isInt t => decide (own_ty ks t = some .int)
  | .isLong t => decide (own_ty ks t = some .long)
  | .and a b => own_ok ks T a && own_ok ks T b
  | .or a b => (own_defd ks a && own_ok ks T b) || T.contains (.or a b)
  | q => T.contains q
theorem own_cmp_sound {ks : List VKind} {A : Array Value} (hA : own_args ks A) {s : State} {a b : Term} (h : own_cmp ks a b = true) :
    (∃ x y, a.eval A s none [] s = some (.int x) ∧ b.eval A s none [] s = some (.int y)) ∨ (∃ x y, a.eval A s none [] s = some (.long x) ∧ b.eval A s none [] s = some (.long y)) := by
  rcases of_decide_eq_true h with ⟨h1, h2⟩ | ⟨h1, h2⟩
  · obtain ⟨va, ea, oa⟩ := own_ty_sound hA a _ h1 s none [] s
    obtain ⟨vb, eb, ob⟩ := own_ty_sound hA b _ h2 s none [] s
    obtain ⟨x, rfl⟩ := own_int oa
    obtain ⟨y, rfl⟩ := own_int ob
    exact Or.inl ⟨x, y, ea, eb⟩
  · obtain ⟨va, ea, oa⟩ := own_ty_sound hA a _ h1 s none [] s
    obtain ⟨vb, eb, ob⟩ := own_ty_sound hA b _ h2 s none [] s
    obtain ⟨x, rfl⟩ := own_long oa
    obtain ⟨y, rfl⟩ := own_long ob
    exact Or.inr ⟨x, y, ea, eb⟩
theorem own_defd_sound {ks : List VKind} {A : Array Value} (hA : own_args ks A) {s : State} (q : Cond) : own_defd ks q = true → ∃ b, q.value A s none s [] = some b := by
  induction q with
  | eq a b | lt a b | le a b =>
    intro h
    rcases own_cmp_sound hA (s := s) (a := a) (b := b) h with ⟨x, y, ea, eb⟩ | ⟨x, y, ea, eb⟩ <;> exact ⟨_, by simp only [Cond.value, ea, eb]; rfl⟩
  | not c ih => intro h; obtain ⟨b, hb⟩ := ih h; exact ⟨_, by simp only [Cond.value, hb]; rfl⟩
  | _ => intro h; cases h
theorem own_ok_sound {ks : List VKind} {T : List Cond} {A : Array Value} (hA : own_args ks A) {s : State} (hT : ∀ c ∈ T, c.value A s none s [] = some true) (q : Cond) : own_ok ks T q = true → q.value A s none s [] = some true := by
  induction q with
  | tt => intro _; rfl
  | isInt t =>
    intro h
    obtain ⟨v, e, o⟩ := own_ty_sound hA t _ (of_decide_eq_true h) s none [] s
    obtain ⟨x, rfl⟩ := own_int o
    simp only [Cond.value, e]; rfl
  | isLong t =>
    intro h
    obtain ⟨v, e, o⟩ := own_ty_sound hA t _ (of_decide_eq_true h) s none [] s
    obtain ⟨x, rfl⟩ := own_long o
    simp only [Cond.value, e]; rfl
  | and a b iha ihb =>
    intro h
    simp only [own_ok, Bool.and_eq_true] at h
    simp only [Cond.value, iha h.1, ihb h.2]
  | or a b iha ihb =>
    intro h
    simp only [own_ok, Bool.or_eq_true, Bool.and_eq_true] at h
    rcases h with h | h
    · obtain ⟨v, hv⟩ := own_defd_sound hA (s := s) a h.1
      cases v with
      | true => simp only [Cond.value, hv]
      | false => simp only [Cond.value, hv, ihb h.2]
    · exact hT _ (List.contains_iff_mem.mp h)
  | _ => intro h; exact hT _ (List.contains_iff_mem.mp h)
theorem own_needs {ks : List VKind} {T L : List Cond} {A : Array Value} (hA : own_args ks A) {s : State} (hT : ∀ c ∈ T, c.value A s none s [] = some true) (h : (L.all (own_ok ks T)) = true) : ∀ q ∈ L, q.before A s = true :=
  fun q hq => before_of_value (own_ok_sound hA hT q (List.all_eq_true.mp h q hq))
theorem own_mem_sorts : ∀ (ks : List VKind) (j i : Nat) (k : VKind), ks[i]? = some k → isK k (.arg (j + i)) ∈ sorts j ks
  | [], _, _, _, h => by simp at h
  | k0 :: ks, j, 0, k, h => by
    have e : k0 = k := by simpa using h
    subst e
    exact List.mem_cons_self
  | k0 :: ks, j, i + 1, k, h => by
    have h2 := own_mem_sorts ks (j + 1) i k (by simpa using h)
    have e : j + 1 + i = j + (i + 1) := by omega
    rw [e] at h2
    exact List.mem_cons_of_mem _ h2
theorem own_args_of {ks : List VKind} {A : Array Value} {s : State} (h : ∀ q ∈ sorts 0 ks, q.before A s = true) : own_args ks A := by
  intro i k hk
  have hm := own_mem_sorts ks 0 i k hk
  rw [Nat.zero_add] at hm
  obtain ⟨v, hv, ho⟩ := isK_spec (h _ hm)
  exact ⟨v, hv, ho⟩

/-! OWN LAYER 2: a callee by a promise of one term; the law -/
def own_spec (y : MethodName) (ycode : ByteArray) (maxL : Nat) (rt : Option FieldType) (ks : List VKind) (tm : Term) (tabs : List Cond) (room : Room) : Spec :=
  specOf y ycode maxL rt ks (.and .returned (.eq .result (.old tm))) tabs [] room
theorem own_meets {l : Launch} {y : MethodName} {ycode : ByteArray} {maxL : Nat} {rt : Option FieldType} {I : Info} {ks : List VKind} {n : Nat} {t : STree} {tabs needs : List Cond} (tm : Term)
    (hx : plainName y.cls = true) (hown : I.own = y.cls) (hr : I.ret = rt) (hw : walkTo I ycode [] n true (entry ks maxL) = some (t, tabs, needs)) (hp : Kit.pureVal t = true) (hn : (needs.all (own_ok ks tabs)) = true) (hcl : tm.closed = true)
    (hv : ∀ A s, A.size = ks.length → own_args ks A → ∃ z : Int32, Kit.valueOf A s t = some (.int z) ∧ tm.eval A s none [] s = some (.int z))
    (hcalls : CallsOk l I maxL I.room := by intro q hq; cases hq) : MeetsLoose l y (own_spec y ycode maxL rt ks tm tabs I.room) := by
  refine loops_meets (I := I) (ks0 := ks) (cuts := []) hx hown hr rfl rfl rfl (fun args s h => conj_before h _ List.mem_cons_self) hw (fun _ => none) (fun _ _ _ _ _ => False) (fun _ _ _ => 0) (fun args s h => ?_) (fun args s _ h ks hks => by cases hks) hcalls
  have hpre := conj_before h
  have hcount : args.size = ks.length := by
    have h1 := hpre (.count ks.length) (by simp)
    simpa [Cond.before, Cond.holds, Cond.value] using h1
  have hsorts : ∀ q ∈ sorts 0 ks, q.before args s = true := fun q hq => hpre q (by simp [hq])
  have htabs : ∀ q ∈ tabs, q.before args s = true := fun q hq => hpre q (by simp [hq])
  have hA := own_args_of hsorts
  obtain ⟨z, h1, h2⟩ := hv args s hcount hA
  refine ⟨hcount, hsorts, htabs, own_needs hA (fun c hc => value_of_before (htabs c hc)) hn, Kit.vc_of_value (w₀ := .int z) (fun E => ?_) t hp h1⟩
  have h3 : (Term.old tm).eval args s (some (.returned (some (.int z)))) [] E = some (.int z) := (Term.eval_closed _ [] tm s hcl).trans h2
  show (Cond.and .returned (.eq .result (.old tm))).after args s (.returned (some (.int z))) E = true
  rw [Cond.after_and]
  have h4 : (Cond.eq .result (.old tm)).value args s (some (.returned (some (.int z)))) E [] = some (decide (z = z)) := Cond.eq_ints rfl h3
  simp [Cond.after, Cond.holds, h4]
  rfl
theorem own_met {Gt : List Cond} {I : Info} {ks : List VKind} {n : Nat} {t0 : STree} {tabs needs : List Cond} (l : Launch) (hx : plainName x.cls = true) (hI : I.own = x.cls) (hr : I.ret = ret)
    (hw : walkTo I code [] n true (entry ks maxLocals) = some (t0, tabs, needs))
    (hs : ((Cond.count ks.length :: sorts 0 ks).all fun q => (flatC (Cond.and given_1 narrow_1)).contains q) = true)
    (ht : (tabs.all fun q => (Cond.code x code maxLocals ret :: tables_1).contains q) = true)
    (hn : (needs.all (own_ok ks ((Cond.code x code maxLocals ret :: tables_1) ++ Gt))) = true)
    (hp : Kit.pureVal t0 = true)
    (hv : ∀ A s, A.size = ks.length → own_args ks A → Kit.valueOf A s t0 = some (.int 1))
    (hG : ∀ A s, A.size = ks.length → own_args ks A → ∀ c ∈ Gt, c.value A s none s [] = some true)
    (hcalls : CallsOk l I maxLocals room_1) :
    MeetsLoose l x (armSpec x code maxLocals ret tables_1 room_1 .tt (.and given_1 narrow_1) (.and limb_1_1 limb_1_2) frame_1_writes frame_1_arrays frame_1_statics) := by
  refine loops_meets (I := I) (ks0 := ks) (cuts := []) hx hI hr rfl rfl rfl (fun args s h => ?_) hw (fun _ => none) (fun _ _ _ _ _ => False) (fun _ _ _ => 0) (fun args s h => ?_) (fun args s _ h ks hks => by cases hks) hcalls
  · simp only [armSpec, allAtoms, List.foldr_cons, Cond.before_and, Bool.and_eq_true] at h; exact h.1.1
  · have hts : (allAtoms (Cond.code x code maxLocals ret :: tables_1)).before args s = true := by simp only [armSpec, Cond.before_and, Bool.and_eq_true] at h; exact h.1
    have hg : (Cond.and given_1 narrow_1).before args s = true := by simp only [armSpec, Cond.before_and, Bool.and_eq_true] at h ⊢; exact h.2.2
    have hall : ∀ q ∈ Cond.count ks.length :: sorts 0 ks, q.before args s = true := fun q hq => flat_of_before _ hg q (List.contains_iff_mem.mp (List.all_eq_true.mp hs q hq))
    have hcount : args.size = ks.length := by
      have h1 := hall _ List.mem_cons_self
      simpa [Cond.before, Cond.holds, Cond.value] using h1
    have hsorts : ∀ q ∈ sorts 0 ks, q.before args s = true := fun q hq => hall q (List.mem_cons_of_mem _ hq)
    have hA := own_args_of hsorts
    refine ⟨hcount, hsorts, tabs_of_sub hts ht, own_needs hA (fun c hc => (List.mem_append.mp hc).elim (fun h => value_of_before (atoms_spec hts c h)) (fun h => hG args s hcount hA c h)) hn, Kit.vc_of_value (w₀ := .int 1) (fun E => ?_) t0 hp (hv args s hcount hA)⟩
    simp [armSpec, limb_1_1, limb_1_2, Cond.after, Cond.holds, Cond.value, Term.eval]
theorem own_lim1 (h : ∀ l, MeetsLoose l x (armSpec x code maxLocals ret tables_1 room_1 .tt (.and given_1 narrow_1) (.and limb_1_1 limb_1_2) frame_1_writes frame_1_arrays frame_1_statics)) : Claimed_1_1 :=
  armFor_of_meets0 (fun l => (h l).meets) fun _ _ _ _ h => by simp only [Cond.after_and, Bool.and_eq_true] at h; exact h.1
theorem own_lim2 (h : ∀ l, MeetsLoose l x (armSpec x code maxLocals ret tables_1 room_1 .tt (.and given_1 narrow_1) (.and limb_1_1 limb_1_2) frame_1_writes frame_1_arrays frame_1_statics)) : Claimed_1_2 :=
  armFor_of_meets0 (fun l => (h l).meets) fun _ _ _ _ h => by simp only [Cond.after_and, Bool.and_eq_true] at h; exact h.2
theorem own_get {α β γ : Type} {o : Option (α × β × γ)} (h : o.isSome = true) {t : α} (ht : (o.get h).1 = t) : o = some (t, (o.get h).2.1, (o.get h).2.2) := by
  subst ht
  exact (Option.some_get h).symm
theorem own_fork {A : Array Value} {s : State} {G : Cond} {a b : STree} {v : Bool} (h : G.value A s none s [] = some v) : Kit.valueOf A s (.fork G a b) = if v = true then Kit.valueOf A s a else Kit.valueOf A s b := by
  cases v <;> simp only [Kit.valueOf, h] <;> rfl
end Jvm.Pilot.@@N@@
namespace Jvm.Pilot.@@N@@
open Jvm Jvm.ClassFile Sem Op Jvm.Sym Jvm.Pilot.@@N@@.Jvm.D

/-! 1. the plain law -/
/-- 1 where 32 ≤ c ≤ 126, else 0: by the sign bit of (c - 32) | (126 - c) -/
def own_h (c : Int32) : Int32 := ((((c - 32) ||| (126 - c)).toUInt32 >>> ((31 : Int32) &&& 31).toUInt32).toInt32) ^^^ 1
theorem own_top (z : Int32) : ((z.toUInt32 >>> ((31 : Int32) &&& 31).toUInt32).toInt32) ^^^ 1 = if z < 0 then 0 else 1 := by
  have e : (z < 0) ↔ z.toBitVec.msb = true := by
    rw [Int32.lt_iff_toInt_lt, Int32.toInt_zero]
    show z.toBitVec.toInt < 0 ↔ _
    rw [BitVec.msb_eq_toInt, decide_eq_true_eq]
  have e2 : ((z.toUInt32 >>> ((31 : Int32) &&& 31).toUInt32).toInt32).toBitVec.toNat = z.toBitVec.toNat / 2 ^ 31 := by
    simp only [UInt32.toBitVec_toInt32, UInt32.toBitVec_shiftRight, Int32.toBitVec_toUInt32]
    simp [BitVec.toNat_ushiftRight, Nat.shiftRight_eq_div_pow]
  have hb := z.toBitVec.isLt
  have hm : z.toBitVec.msb = decide (2 ^ 31 ≤ z.toBitVec.toNat) := by rw [BitVec.msb_eq_decide]
  by_cases h : z < 0
  · rw [if_pos h]
    have h2 : 2 ^ 31 ≤ z.toBitVec.toNat := by
      have := e.mp h
      rw [hm] at this
      simpa using this
    have h3 : ((z.toUInt32 >>> ((31 : Int32) &&& 31).toUInt32).toInt32) = 1 := by
      apply Int32.toBitVec_inj.mp
      apply BitVec.eq_of_toNat_eq
      rw [e2]
      show _ = 1
      omega
    rw [h3]; rfl
  · rw [if_neg h]
    have h2 : ¬ 2 ^ 31 ≤ z.toBitVec.toNat := by
      have := mt e.mpr h
      rw [hm] at this
      simpa using this
    have h3 : ((z.toUInt32 >>> ((31 : Int32) &&& 31).toUInt32).toInt32) = 0 := by
      apply Int32.toBitVec_inj.mp
      apply BitVec.eq_of_toNat_eq
      rw [e2]
      show _ = 0
      omega
    rw [h3]; rfl
theorem own_or_neg (x y : Int32) : ((x ||| y) < 0) ↔ (x < 0 ∨ y < 0) := by
  have e : ∀ z : Int32, (z < 0) ↔ z.toBitVec.msb = true := fun z => by
    rw [Int32.lt_iff_toInt_lt, Int32.toInt_zero]
    show z.toBitVec.toInt < 0 ↔ _
    rw [BitVec.msb_eq_toInt, decide_eq_true_eq]
  rw [e, e, e, Int32.toBitVec_or, BitVec.msb_or, Bool.or_eq_true]
theorem own_h_eq (c : Int32) : own_h c = if c < 32 ∨ 126 < c then 0 else 1 := by
  have lc := c.le_toInt
  have rc := c.toInt_lt
  have c32 : (32 : Int32).toInt = 32 := rfl
  have c126 : (126 : Int32).toInt = 126 := rfl
  have key : ((c - 32) ||| (126 - c)) < 0 ↔ (c < 32 ∨ 126 < c) := by
    rw [own_or_neg, Int32.lt_iff_toInt_lt, Int32.lt_iff_toInt_lt, Int32.lt_iff_toInt_lt, Int32.lt_iff_toInt_lt, Int32.toInt_zero, Int32.toInt_sub, Int32.toInt_sub, c32, c126, Int.bmod_def, Int.bmod_def]
    omega
  unfold own_h
  rw [own_top]
  by_cases h : c < 32 ∨ 126 < c
  · rw [if_pos h, if_pos (key.mpr h)]
  · rw [if_neg h, if_neg (mt key.mp h)]
theorem own_char (z : Int32) : 0 ≤ (z.toUInt32.toUInt16.toUInt32.toInt32).toInt ∧ (z.toUInt32.toUInt16.toUInt32.toInt32).toInt < 65536 := by
  have h1 : (z.toUInt32.toUInt16.toUInt32.toInt32).toBitVec.toNat = z.toUInt32.toUInt16.toNat := UInt16.toNat_toUInt32 _
  have h2 := z.toUInt32.toUInt16.toNat_lt
  have h3 : (z.toUInt32.toUInt16.toUInt32.toInt32).toInt = (z.toUInt32.toUInt16.toUInt32.toInt32).toBitVec.toInt := rfl
  rw [h3, BitVec.toInt_eq_toNat_cond, h1, if_pos (by omega)]
  omega
theorem own_plain (c : Int32) (h0 : 0 ≤ c.toInt) (h1 : c.toInt < 65536) : ((95 : Int32) ≤ (c - 32) &&& 65535) ↔ (c < 32 ∨ 126 < c) := by
  have c32 : (32 : Int32).toInt = 32 := rfl
  have c95 : (95 : Int32).toInt = 95 := rfl
  have c126 : (126 : Int32).toInt = 126 := rfl
  have e1 : (c - 32).toInt = c.toInt - 32 := by rw [Jvm.Kit.i32_sub (by omega) (by omega), c32]
  have e2 : ((c - 32) &&& 65535).toInt = (c - 32).toInt % 2 ^ 16 := Jvm.Kit.i32_mask _ 65535 (k := 16) (by decide) (by decide)
  rw [Int32.le_iff_toInt_le, Int32.lt_iff_toInt_lt, Int32.lt_iff_toInt_lt, c32, c95, c126, e2, e1]
  omega

/-! 2. the callees -/
def Z (k : Int32) : Term := .op2 .iand (.int k) (.int 1)
def R (k : Int32) : STree := .ret (some ⟨Z k, .int⟩) []
def tH (t : Term) : Term := .op2 .ixor (.op2 .iushr (.op2 .ior (.sub t (.int 32)) (.sub (.int 126) t)) (.int 31)) (.int 1)
theorem own_eH {A : Array Value} {s : State} {t : Term} {c : Int32} (e : t.eval A s none [] s = some (.int c)) : (tH t).eval A s none [] s = some (.int (own_h c)) := by
  simp only [tH, Term.eval, e]; rfl
def yh : MethodName := ⟨"com/example/rugged_flow/ruggedflow/engine/StructuredString", "holds", "(C)Z"⟩
def yhI : Info := { own := "com/example/rugged_flow/ruggedflow/engine/StructuredString", ret := some .boolean }
def yhw := walkTo yhI prog_21_method_2_code [] 200 true (entry [.int] 1)
theorem yhw_some : yhw.isSome = true := by decide +kernel
def Ga : Cond := .lt (.old (.arg 0)) (.old (.int 32))
def Gb : Cond := .lt (.old (.int 126)) (.old (.arg 0))
def th : STree := .fork Ga (R 0) (.fork Gb (R 0) (R 1))
theorem yhtree : (yhw.get yhw_some).1 = th := by decide +kernel
def yhtabs : List Cond := (yhw.get yhw_some).2.1
theorem yhwalk : walkTo yhI prog_21_method_2_code [] 200 true (entry [.int] 1) = some (th, yhtabs, (yhw.get yhw_some).2.2) := by
  rw [← yhtree]; exact (Option.some_get yhw_some).symm
def yhspec : Spec := own_spec yh prog_21_method_2_code 1 (some .boolean) [.int] (tH (.arg 0)) yhtabs {}
theorem yhmeets (l : Launch) : MeetsLoose l yh yhspec :=
  own_meets (I := yhI) (tH (.arg 0)) (by decide) rfl rfl yhwalk (by decide +kernel) (by decide +kernel) (by decide +kernel) (fun A s hs hA => by
    obtain ⟨v0, e0, k0⟩ := hA 0 .int rfl
    obtain ⟨c, rfl⟩ := own_int k0
    have e : (Term.arg 0).eval A s none [] s = some (.int c) := e0
    refine ⟨own_h c, ?_, own_eH e⟩
    have g1 : Ga.value A s none s [] = some (decide (c < 32)) := Cond.lt_ints (a := .old (.arg 0)) e0 rfl
    have g2 : Gb.value A s none s [] = some (decide (126 < c)) := Cond.lt_ints (b := .old (.arg 0)) rfl e0
    have r0 : Kit.valueOf A s (R 0) = some (.int 0) := rfl
    have r1 : Kit.valueOf A s (R 1) = some (.int 1) := rfl
    unfold th
    rw [own_fork g1, own_fork g2, r0, r1, own_h_eq]
    by_cases h1 : c < 32
    · simp [h1]
    · by_cases h2 : 126 < c <;> simp [h1, h2])
theorem yhcold : yhspec.Cold := Spec.cold_of_keeps (by decide +kernel)
def yp : MethodName := ⟨x.cls, "printable", "(C)Z"⟩
def ypI : Info := { own := x.cls, ret := some .boolean, ints := [(7, 65535)] }
def ypout : Option (Cond × List Cond × List Cond) := walk ypI method_2_code 200 (entry [.int] 2)
theorem ypwalks : ypout.isSome = true := by decide +kernel
def ypgot : Cond × List Cond × List Cond := ypout.get ypwalks
def ypspec : Spec := specOf yp method_2_code 2 (some .boolean) [.int] ypgot.1 ypgot.2.1 ypgot.2.2
theorem ypmeets (l : Launch) : MeetsLoose l yp ypspec :=
  walk_meets (n := 200) (I := ypI) (by decide) rfl rfl (show walk ypI method_2_code 200 (entry [.int] 2) = some (ypgot.1, ypgot.2.1, ypgot.2.2) from (Option.some_get ypwalks).symm)
theorem ypcold : ypspec.Cold := Spec.cold_of_keeps (by decide +kernel)

/-! 3. the law: the roads on which a 0 is laid are shut -/
def calleeH : Callee := { y := yh, S := yhspec, bytes := prog_21_method_2_code, maxL := 1, ret := some .boolean, static := true, params := 1, res := some .int }
def calleeP : Callee := { y := yp, S := ypspec, bytes := method_2_code, maxL := 2, ret := some .boolean, static := true, params := 1, res := some .int }
def I : Info := { own := x.cls, ret := ret, ints := [(7, 65535)], calls := [(8, calleeH), (14, calleeP)], maxLocals := maxLocals, room := room_1, shut := [21, 39, 57, 75, 93, 111, 129] }
theorem callsOk (l : Launch) : CallsOk l I maxLocals room_1 := fun q hq => by
  have hq' : q = (8, calleeH) ∨ q = (14, calleeP) := by simpa [I] using hq
  rcases hq' with rfl | rfl
  · exact ⟨rfl, rfl, yhmeets l, yhcold⟩
  · exact ⟨rfl, rfl, ypmeets l, ypcold⟩
def w := walkTo I code [] 400 true (entry [.int] maxLocals)
theorem w_some : w.isSome = true := by decide +kernel
def tc : Term := .op1 .i2c (.op2 .iand (.arg 0) (.int 65535))
def Gp : Cond := .le (.old (.int 95)) (.old (.op2 .iand (.sub tc (.int 32)) (.int 65535)))
def Gq (k : Int32) : Cond := .not (.eq (.old (tH tc)) (.old (Z k)))
def G1 : Cond := .eq (.old (.int 1)) (.int 0)
def Gn (k : Int32) : Cond := .not (.eq (.old (tH (.int k))) (.int 0))
def Gy (k : Int32) : Cond := .eq (.old (tH (.int k))) (.int 0)
def Gt : List Cond := [.or (.not Gp) (.not (Gq 0)), .or Gp (.not (Gq 1)), .not G1, .not (Gn 31), .not (Gy 32), .not (Gy 126), .not (Gn 127), .not (Gn 9), .not (Gn 65535)]
def t0 : STree := .fork Gp (R 1) (R 1)
set_option maxRecDepth 65536 in
theorem tree : (w.get w_some).1 = t0 := by decide +kernel
theorem entry_walk : walkTo I code [] 400 true (entry [.int] maxLocals) = some (t0, (w.get w_some).2.1, (w.get w_some).2.2) := own_get (o := w) w_some tree
theorem own_gp {A : Array Value} {s : State} {a : Int32} (e : (Term.arg 0).eval A s none [] s = some (.int a)) :
    ∃ c : Int32, 0 ≤ c.toInt ∧ c.toInt < 65536 ∧ tc.eval A s none [] s = some (.int c) ∧ Gp.value A s none s [] = some (decide (95 ≤ (c - 32) &&& 65535)) := by
  have ec : tc.eval A s none [] s = some (.int ((a &&& 65535).toUInt32.toUInt16.toUInt32.toInt32)) := by simp only [tc, Term.eval, show A[0]? = some (.int a) from e]; rfl
  refine ⟨_, (own_char _).1, (own_char _).2, ec, ?_⟩
  have ed : (Term.old (.op2 .iand (.sub tc (.int 32)) (.int 65535))).eval A s none [] s = some (.int (((a &&& 65535).toUInt32.toUInt16.toUInt32.toInt32 - 32) &&& 65535)) := by
    simp only [Term.eval, ec]; rfl
  exact Cond.le_ints rfl ed
theorem own_or_t {A : Array Value} {s : State} {a b : Cond} (h : a.value A s none s [] = some true) : (Cond.or a b).value A s none s [] = some true := by
  simp only [Cond.value, h]
theorem own_or_f {A : Array Value} {s : State} {a b : Cond} (h : a.value A s none s [] = some false) (h2 : b.value A s none s [] = some true) : (Cond.or a b).value A s none s [] = some true := by
  simp only [Cond.value, h, h2]
theorem own_facts {A : Array Value} {s : State} {a : Int32} (e : (Term.arg 0).eval A s none [] s = some (.int a)) : ∀ c ∈ Gt, c.value A s none s [] = some true := by
  obtain ⟨c, h0, h1, ec, gp⟩ := own_gp e
  have key := own_plain c h0 h1
  have gq : ∀ k : Int32, (Cond.not (Gq k)).value A s none s [] = some (decide (own_h c = k &&& 1)) := fun k => by
    have h : (Gq k).value A s none s [] = some (!decide (own_h c = k &&& 1)) := not_value (Cond.eq_ints (a := .old (tH tc)) (own_eH ec) rfl)
    rw [not_value h, Bool.not_not]
  have gn : ∀ k : Int32, (Cond.not (Gn k)).value A s none s [] = some (decide (own_h k = 0)) := fun k => by
    have h : (Gn k).value A s none s [] = some (!decide (own_h k = 0)) := not_value (Cond.eq_ints (a := .old (tH (.int k))) (own_eH (t := .int k) rfl) rfl)
    rw [not_value h, Bool.not_not]
  have gy : ∀ k : Int32, (Cond.not (Gy k)).value A s none s [] = some (!decide (own_h k = 0)) := fun k =>
    not_value (Cond.eq_ints (a := .old (tH (.int k))) (own_eH (t := .int k) rfl) rfl)
  intro q hq
  simp only [Gt, List.mem_cons, List.not_mem_nil, or_false] at hq
  rcases hq with rfl | rfl | rfl | rfl | rfl | rfl | rfl | rfl | rfl
  · by_cases h : (95 : Int32) ≤ (c - 32) &&& 65535
    · rw [decide_eq_true h] at gp
      refine own_or_f (not_value gp) ?_
      rw [gq, own_h_eq, if_pos (key.mp h)]; rfl
    · rw [decide_eq_false h] at gp
      exact own_or_t (not_value gp)
  · by_cases h : (95 : Int32) ≤ (c - 32) &&& 65535
    · rw [decide_eq_true h] at gp
      exact own_or_t gp
    · rw [decide_eq_false h] at gp
      refine own_or_f gp ?_
      rw [gq, own_h_eq, if_neg (mt key.mpr h)]; rfl
  · rfl
  · rw [gn]; decide
  · rw [gy]; decide
  · rw [gy]; decide
  · rw [gn]; decide
  · rw [gn]; decide
  · rw [gn]; decide
theorem met_1 (l : Launch) : MeetsLoose l x (armSpec x code maxLocals ret tables_1 room_1 .tt (.and given_1 narrow_1) (.and limb_1_1 limb_1_2) frame_1_writes frame_1_arrays frame_1_statics) :=
  own_met (Gt := Gt) l (by decide) rfl rfl entry_walk (by decide +kernel) (by decide +kernel) (by decide +kernel) (by decide +kernel) (fun A s hs hA => by
    obtain ⟨v0, e0, k0⟩ := hA 0 .int rfl
    obtain ⟨a, rfl⟩ := own_int k0
    obtain ⟨c, h0, h1, ec, gp⟩ := own_gp (A := A) (s := s) (a := a) e0
    have r1 : Kit.valueOf A s (R 1) = some (.int 1) := rfl
    unfold t0
    rw [own_fork gp, r1]
    split <;> rfl) (fun A s hs hA => by
    obtain ⟨v0, e0, k0⟩ := hA 0 .int rfl
    obtain ⟨a, rfl⟩ := own_int k0
    exact own_facts (A := A) (s := s) (a := a) e0) (callsOk l)
theorem main_1_1 : Claimed_1_1 := own_lim1 met_1
theorem main_1_2 : Claimed_1_2 := own_lim2 met_1
end Jvm.Pilot.@@N@@
namespace Jvm.Pilot.@@N@@
open Jvm Jvm.ClassFile Sem Op Lib Jvm.Free Jvm.Stand Jvm.Pilot.@@N@@.Jvm.D
/-! MADE BY PROGRAM (witnessworld.py) out of the Statement's table words and the real class files: 9 classes; the members and pool entries that the words name. The judged class is class 1, her method 2. -/
namespace start1
open Jvm.ClassFile
def u (s : String) : CpInfo := .utf8 (stringToUtf16 s)
/-- a pool by its gaps: so many unusable entries, then the entry; so many at the end -/
def gap : Nat → List CpInfo → List CpInfo
  | 0, r => r
  | n + 1, r => .unusable :: gap n r
def poolList (es : List (Nat × CpInfo)) (last : Nat) : List CpInfo := es.foldr (fun e r => gap e.1 (e.2 :: r)) (gap last [])
def pool (es : List (Nat × CpInfo)) (last : Nat) : Array CpInfo := ⟨poolList es last⟩
def fileOf (pool : Array CpInfo) (this : Nat) (attrs : Array Attribute := #[]) (ms : Array MethodInfo := #[]) (fl : Nat := 33) (sup : Nat := 0) (ifs : Array Nat := #[]) (fds : Array FieldInfo := #[]) : ClassFile where
  minorVersion := 0
  majorVersion := 65
  constantPool := pool
  accessFlags := fl
  thisClass := this
  superClass := sup
  interfaces := ifs
  fields := fds
  methods := ms
  attributes := attrs
def plain (name : String) (sup : Option ClassId) : Class where
  name := name
  kind := .ordinary
  loader := none
  accessFlags := 33
  super := sup
  interfaces := #[]
  cf := none
  fields := #[]
  methods := #[]
  instanceTypes := #[]
  staticTypes := #[]
  resolved := #[]
  callSites := []
  init := .initialized
  statics := none
  mirror := none

def pool0 : Array CpInfo := pool [(5, u "<init>"), (0, u "()V"), (1, .class_ 10), (1, u "java/lang/Object")] 113

def k0m0 : Method := { name := "<init>", desc := "()V", sig := { parameters := [], returnType := none }, accessFlags := 1, code := none }
/-- java/lang/Object -/
def k0 : Class := { plain "java/lang/Object" none with
  accessFlags := 33
  interfaces := #[]
  cf := some (fileOf pool0 8 #[] #[{ accessFlags := 1, nameIndex := 5, descriptorIndex := 6, attributes := #[] }] 33 0 #[] #[])
  fields := #[]
  methods := #[k0m0]
  instanceTypes := #[]
  staticTypes := #[]
  resolved := Array.replicate 124 none
  statics := none }

def pool1 : Array CpInfo := pool [(2, .class_ 4), (1, u "java/lang/Object"), (0, u "<init>"), (0, u "()V"), (0, .integer 65535), (0, .methodref 9 10), (0, .class_ 11), (0, .nameAndType 12 13), (0, u "com/example/rugged_flow/ruggedflow/engine/StructuredString"), (0, u "holds"), (0, u "(C)Z"), (0, .methodref 15 16), (0, .class_ 17), (0, .nameAndType 18 13), (0, u "com/example/rugged_flow/ruggedflow/engine/StructuredStringHoldsPinLaw"), (0, u "printable"), (3, u "law"), (0, u "(I)Z")] 2

def k1m0 : Method := { name := "<init>", desc := "()V", sig := { parameters := [], returnType := none }, accessFlags := 2, code := none }
def k1c1 : Code := { maxStack := 2, maxLocals := 2, code := method_2_code, exceptionTable := #[], attributes := #[] }
def k1m1 : Method := { name := "printable", desc := "(C)Z", sig := { parameters := [.char], returnType := some .boolean }, accessFlags := 10, code := some k1c1 }
def k1c2 : Code := { maxStack := 2, maxLocals := 3, code := code, exceptionTable := #[], attributes := #[] }
def k1m2 : Method := { name := "law", desc := "(I)Z", sig := { parameters := [.int], returnType := some .boolean }, accessFlags := 9, code := some k1c2 }
/-- com/example/rugged_flow/ruggedflow/engine/StructuredStringHoldsPinLaw -/
def k1 : Class := { plain "com/example/rugged_flow/ruggedflow/engine/StructuredStringHoldsPinLaw" (some 0) with
  accessFlags := 49
  interfaces := #[]
  cf := some (fileOf pool1 15 #[] #[{ accessFlags := 2, nameIndex := 5, descriptorIndex := 6, attributes := #[] }, { accessFlags := 10, nameIndex := 18, descriptorIndex := 13, attributes := #[] }, { accessFlags := 9, nameIndex := 22, descriptorIndex := 23, attributes := #[] }] 49 2 #[] #[])
  fields := #[]
  methods := #[k1m0, k1m1, k1m2]
  instanceTypes := #[]
  staticTypes := #[]
  resolved := Array.replicate 26 none
  statics := none }

def pool2 : Array CpInfo := pool [(2, .class_ 4), (1, u "java/lang/Object"), (0, u "<init>"), (0, u "()V"), (20, .class_ 29), (1, u "com/example/rugged_flow/ruggedflow/engine/StructuredString"), (0, u "holds"), (0, u "(C)Z"), (15, u "OUTER_SPACES"), (0, u "Ljava/util/regex/Pattern;")] 56

def k2m0 : Method := { name := "<init>", desc := "()V", sig := { parameters := [], returnType := none }, accessFlags := 2, code := none }
def k2c1 : Code := { maxStack := 2, maxLocals := 1, code := prog_21_method_2_code, exceptionTable := #[], attributes := #[] }
def k2m1 : Method := { name := "holds", desc := "(C)Z", sig := { parameters := [.char], returnType := some .boolean }, accessFlags := 9, code := some k2c1 }
/-- com/example/rugged_flow/ruggedflow/engine/StructuredString -/
def k2 : Class := { plain "com/example/rugged_flow/ruggedflow/engine/StructuredString" (some 0) with
  accessFlags := 33
  interfaces := #[]
  cf := some (fileOf pool2 27 #[] #[{ accessFlags := 2, nameIndex := 5, descriptorIndex := 6, attributes := #[] }, { accessFlags := 9, nameIndex := 30, descriptorIndex := 31, attributes := #[] }] 33 2 #[] #[{ accessFlags := 26, nameIndex := 47, descriptorIndex := 48, attributes := #[] }])
  fields := #[{ name := "OUTER_SPACES", type := (.object "java/util/regex/Pattern"), accessFlags := 26, slot := 0, constantValue := 0 }]
  methods := #[k2m0, k2m1]
  instanceTypes := #[]
  staticTypes := #[(.object "java/util/regex/Pattern")]
  resolved := Array.replicate 105 none
  statics := none }

def pool3 : Array CpInfo := pool [(1, u "java/lang/Cloneable"), (0, .class_ 1), (0, u "java/lang/Object"), (0, .class_ 3)] 3

/-- java/lang/Cloneable -/
def k3 : Class := { plain "java/lang/Cloneable" (some 0) with
  accessFlags := 1537
  interfaces := #[]
  cf := some (fileOf pool3 2 #[] #[] 1537 4 #[] #[])
  fields := #[]
  methods := #[]
  instanceTypes := #[]
  staticTypes := #[]
  resolved := Array.replicate 8 none
  statics := none }

def pool4 : Array CpInfo := pool [(1, u "java/io/Serializable"), (0, .class_ 1), (0, u "java/lang/Object"), (0, .class_ 3)] 3

/-- java/io/Serializable -/
def k4 : Class := { plain "java/io/Serializable" (some 0) with
  accessFlags := 1537
  interfaces := #[]
  cf := some (fileOf pool4 2 #[] #[] 1537 4 #[] #[])
  fields := #[]
  methods := #[]
  instanceTypes := #[]
  staticTypes := #[]
  resolved := Array.replicate 8 none
  statics := none }

/-- the primitive byte -/
def k5 : Class := { plain "byte" none with kind := .primitive 'B', accessFlags := 0x411 }
/-- [B -/
def k6 : Class := { plain "[B" (some 0) with kind := .array 5 .byte, interfaces := #[3, 4], accessFlags := 1041 }

/-- the primitive int -/
def k7 : Class := { plain "int" none with kind := .primitive 'I', accessFlags := 0x411 }
/-- [I -/
def k8 : Class := { plain "[I" (some 0) with kind := .array 7 .int, interfaces := #[3, 4], accessFlags := 1041 }

def heap : Heap := #[]
def classes : Array Class := #[k0, k1, k2, k3, k4, k5, k6, k7, k8]
def interned : List (Array UInt16 × Addr) := []
def slotsUsed : Nat := 0
def theMethod : MethodId := ⟨1, 2⟩
def args0 : Array Value := #[.int 65]
def aboutOver (below : List Frame) : State where
  vm := { classes := classes, interned := interned.toArray }
  heap := heap
  slotsUsed := slotsUsed
  threads := #[{ frames := .invoking theMethod args0 :: below }]
def below0 : List Frame := [.native { method := ⟨0, 0⟩, args := #[] }]
def about1 : State := aboutOver below0
def p0 : Program := .bare "" "" ""
def e0 : Env := launch0.env 0 0 0
theorem w_frames : about1.frames = Frame.invoking theMethod args0 :: below0 := rfl
set_option maxRecDepth 65536 in
theorem w_args : argsFit about1.vm theMethod args0 = true := by decide +kernel
set_option maxRecDepth 65536 in
theorem w_heap : heapFits about1 = true := by decide +kernel
set_option maxRecDepth 65536 in
theorem w_runnable : about1.curStatus? = some .runnable := by decide +kernel
set_option maxRecDepth 65536 in
theorem w_alone : about1.alone = true := by decide +kernel
set_option maxRecDepth 65536 in
theorem w_named : about1.methodNamed? x = some theMethod := by decide +kernel
set_option maxRecDepth 65536 in
theorem w_hears : about1.hears theMethod below0 = true := by decide +kernel
set_option maxRecDepth 65536 in
theorem w_ripe : about1.ripe theMethod args0 below0 = true := by decide +kernel
theorem w_running : about1.status = .running := rfl
set_option maxRecDepth 65536 in
theorem w_room : about1.hasRoom e0.platform room_1 = true :=
  launch0.hasRoom_least _ room_1 (by decide +kernel) (by decide +kernel) (by decide +kernel) (by decide +kernel) (by decide +kernel) (by decide +kernel)
theorem allAtoms_all (ts : List Jvm.Cond) (a : Array Jvm.Value) (st : Jvm.State) : (allAtoms ts).before a st = ts.all (fun c => c.before a st) := by
  induction ts with
  | nil => rfl
  | cons c t ih =>
    show (Jvm.Cond.and c (allAtoms t)).before a st = _
    rw [Jvm.Cond.before_and, ih, List.all_cons]
def words1 : List Jvm.Cond := Jvm.Cond.code x code maxLocals ret :: tables_1
/-- a 'code' word, met by the world's own term for the bytes: nothing is compared byte by byte -/
theorem code_word {y : MethodName} {bytes : ByteArray} {mx : Nat} {rt : Option FieldType} {a : Array Value} {s : State} {m : MethodId} {meth : Method} {c : Code} (h1 : s.methodNamed? y = some m) (h2 : s.vm.method? m = some meth) (h3 : meth.code = some c) (h4 : c.code = bytes)
    (h5 : (c.maxLocals == mx && c.exceptionTable.isEmpty && decide (c.maxStack ≤ mostOperands) && decide (meth.sig.returnType = rt) && !meth.locks && decide (parseMethodDescriptor y.desc = some meth.sig)) = true) : (Jvm.Cond.code y bytes mx rt).before a s = true := by
  simp only [Bool.and_eq_true, beq_iff_eq, Bool.not_eq_true', decide_eq_true_eq] at h5
  obtain ⟨⟨⟨⟨⟨g1, g2⟩, g3⟩, g4⟩, g5⟩, g6⟩ := h5
  simp [Cond.before, Cond.holds, Cond.value, h1, h2, h3, h4, g1, g2, g3, g4, g5, g6]
def isCode : Jvm.Cond → Bool
  | .code _ _ _ _ => true
  | _ => false
theorem all_split {L : List Jvm.Cond} {P : Jvm.Cond → Bool} (h1 : L.all (fun c => isCode c || P c) = true) (h2 : ∀ c ∈ L.filter isCode, P c = true) : L.all P = true := by
  refine List.all_eq_true.mpr fun c hc => ?_
  have h := List.all_eq_true.mp h1 c hc
  rcases Bool.eq_false_or_eq_true (isCode c) with hi | hi
  · exact h2 c (List.mem_filter.mpr ⟨hc, hi⟩)
  · simpa [hi] using h
set_option maxRecDepth 65536 in
theorem w_c0 : (Jvm.Cond.code x code maxLocals ret).before args0 about1 = true := code_word (m := ⟨1, 2⟩) (meth := k1m2) (c := k1c2) (by decide +kernel) rfl rfl rfl (by decide +kernel)
set_option maxRecDepth 65536 in
theorem w_c1 : (Jvm.Cond.code ({ cls := "com/example/rugged_flow/ruggedflow/engine/StructuredString", name := "holds", desc := "(C)Z" } : Jvm.MethodName) prog_21_method_2_code (1 : Nat) (Option.some Jvm.ClassFile.FieldType.boolean)).before args0 about1 = true := code_word (m := ⟨2, 1⟩) (meth := k2m1) (c := k2c1) (by decide +kernel) rfl rfl rfl (by decide +kernel)
set_option maxRecDepth 65536 in
theorem w_c2 : (Jvm.Cond.code ({ cls := "com/example/rugged_flow/ruggedflow/engine/StructuredStringHoldsPinLaw", name := "printable", desc := "(C)Z" } : Jvm.MethodName) method_2_code (2 : Nat) (Option.some Jvm.ClassFile.FieldType.boolean)).before args0 about1 = true := code_word (m := ⟨1, 1⟩) (meth := k1m1) (c := k1c1) (by decide +kernel) rfl rfl rfl (by decide +kernel)
def codes1 : List Jvm.Cond := [Jvm.Cond.code x code maxLocals ret, Jvm.Cond.code ({ cls := "com/example/rugged_flow/ruggedflow/engine/StructuredString", name := "holds", desc := "(C)Z" } : Jvm.MethodName) prog_21_method_2_code (1 : Nat) (Option.some Jvm.ClassFile.FieldType.boolean), Jvm.Cond.code ({ cls := "com/example/rugged_flow/ruggedflow/engine/StructuredStringHoldsPinLaw", name := "printable", desc := "(C)Z" } : Jvm.MethodName) method_2_code (2 : Nat) (Option.some Jvm.ClassFile.FieldType.boolean)]
set_option maxRecDepth 65536 in
theorem codes_eq : words1.filter isCode = codes1 := rfl
theorem w_codes : ∀ c ∈ words1.filter isCode, c.before args0 about1 = true := by
  rw [codes_eq]
  intro c hc
  simp only [codes1, List.mem_cons, List.not_mem_nil, or_false] at hc
  rcases hc with rfl | rfl | rfl
  · exact w_c0
  · exact w_c1
  · exact w_c2
set_option maxRecDepth 65536 in
theorem w_t1 : words1.all (fun c => isCode c || c.before args0 about1) = true := by decide +kernel
theorem w_tables : (allAtoms (Jvm.Cond.code x code maxLocals ret :: tables_1)).before args0 about1 = true := by
  rw [allAtoms_all]
  show words1.all (fun c => c.before args0 about1) = true
  refine all_split ?_ w_codes
  rw [w_t1]
set_option maxRecDepth 65536 in
theorem w_case : (Jvm.Cond.and given_1 narrow_1).before args0 about1 = true := by decide +kernel
theorem w_applies : (headSpec (Jvm.Cond.code x code maxLocals ret :: tables_1) room_1).applies x e0.platform about1 = true :=
  (Spec.applies_iff w_frames).mpr ⟨w_running, w_runnable, w_alone, w_named, w_hears, w_ripe, w_room, w_tables⟩
theorem atStart : AtStart classFile x code maxLocals ret World_1 tables_1 room_1 Calls_1 rest_1 Pre_1 launch0 p0 e0 about1 theMethod args0 below0 :=
  ⟨lists_1, trivial, launch0.admits_env _ _ _, launch0.least_env, fairChoices_fair.cas, fairChoices_fair.clock, w_frames, w_args, w_heap, w_applies, trivial, trivial, w_case⟩
end start1
theorem witness_1 : WitnessClaimed_1 := ⟨start1.p0, start1.e0, start1.about1, start1.theMethod, start1.args0, start1.below0, start1.atStart⟩
end Jvm.Pilot.@@N@@
