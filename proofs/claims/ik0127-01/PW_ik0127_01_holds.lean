import PyProof.Rows.All
import Wide.All
import OpenK.AllK
import Wide.FinOn
import PySem.Challenge.RW_ik0127_01
open PySem PySem.W PySem.Spec PySem.Calls PyProof.Rows
set_option Elab.async false
set_option maxRecDepth 100000
set_option linter.unusedVariables false
set_option maxHeartbeats 8000000
set_option compiler.extract_closed false
set_option genSizeOf false
set_option genInjectivity false
namespace Mine
section
section
local macro_rules | `(tactic| o_head ($f $k $a $e $ts)) => `(tactic| assumption)
theorem hd (h : PySem.Challenge.rw_ik0127_01.row.Holds) : PySem.Challenge.rw_ik0127_01.row.Holds := by
  k_head
end
end
section
theorem ar0 {qa qk qK : Nat} (qh : qa ≤ qk) (qc : Nat.ble qk qK = true) : qa ≤ qK := Nat.le_trans qh (Nat.le_of_ble_eq_true qc)
theorem ar1 {qa qx qc : Nat} (qh : qa + qx < qc) : qa < qc := Nat.lt_of_le_of_lt (Nat.le_add_right qa qx) qh
theorem ar2 {qa qx qy qc : Nat} (qh : qa + qx < qc) (qk : Nat.ble qy qx = true) : qa + qy < qc := Nat.lt_of_le_of_lt (Nat.add_le_add_left (Nat.le_of_ble_eq_true qk) qa) qh
theorem ar3 {qa qx qy qz qc : Nat} (qh : qa + qx < qc) (qk : Nat.ble (qy + qz) qx = true) : qa + qy + qz < qc := Nat.add_assoc qa qy qz ▸ ar2 qh qk
theorem ar4 {qa qx qy qz qu qc : Nat} (qh : qa + qx < qc) (qk : Nat.ble (qy + (qz + qu)) qx = true) : qa + qy + qz + qu < qc := Nat.add_assoc (qa + qy) qz qu ▸ ar3 (qz := qz + qu) qh qk
theorem ar5 {qa qx qy qc : Nat} (qh : qa < qc) (qhc : qc ≤ qx) (qk : Nat.ble qx qy = true) : qa < qy := Nat.lt_of_lt_of_le qh (Nat.le_trans qhc (Nat.le_of_ble_eq_true qk))
theorem ar6 {qa qx qc qK : Nat} (qh : qa ≤ qc) (qhc : qc ≤ qx) (qk : Nat.ble qx qK = true) : qa ≤ qK := Nat.le_trans qh (Nat.le_trans qhc (Nat.le_of_ble_eq_true qk))
theorem ar7 {qa qb : Nat} (qh : qa ≤ qb) (qn : ¬ qa < qb) : qa = qb := Nat.le_antisymm qh (Nat.le_of_not_lt qn)
theorem ar8 {qa qb : Nat} (qh : qa < qb) (qn : ¬ qa + 1 < qb) : qb = qa + 1 := Nat.le_antisymm (Nat.le_of_not_lt qn) qh
theorem ar9 {qa qb : Nat} (qh : qa < qb) (qn : ¬ qa + 1 < qb) : qa + 1 = qb := (ar8 qh qn).symm
theorem ar10 {qa qb : Nat} (qh : qa < qb + 1) (qn : ¬ qa < qb) : qa = qb := ar7 (Nat.le_of_lt_succ qh) qn
theorem ar11 {qa qk qK : Nat} (qh : qa = qk) (qc : Nat.ble qk qK = true) : qa ≤ qK := qh ▸ Nat.le_of_ble_eq_true qc
theorem ar12 {qa qb qi : Nat} (qh : qi < qa) : qa - (qi + 1) < qa - qi := Nat.sub_lt_sub_left qh (Nat.lt_succ_self qi)
theorem ar13 {qa qi : Nat} (qh : qi < qa) : (qa + 1) - (qi + 1) < (qa + 1) - qi := ar12 (Nat.lt_succ_of_lt qh) (qb := 0)
theorem ar14 {qa : Nat} (qh : 1 ≤ qa) : qa - 1 < qa := Nat.sub_lt qh Nat.one_pos
theorem ar15 {qn : Nat} {qk : Nat} (qh : qn ≤ qk) (qc : Nat.ble qk 1000000 = true) (qe : (qn : Int) ≥ 2 ^ 63) : False := absurd (Int.ofNat_le.mp (show ((2 ^ 63 : Nat) : Int) ≤ (qn : Int) from qe)) (Nat.not_le_of_lt (Nat.lt_of_le_of_lt (Nat.le_trans qh (Nat.le_of_ble_eq_true qc)) (by decide)))
theorem az (qn : Nat) : (0 : Int) ≤ (qn : Int) := Int.natCast_nonneg qn
theorem an {qz : Int} (qh : 0 ≤ qz) : (0 : Int) ≤ qz + 1 := Int.add_nonneg qh (by decide)
theorem al {qz : Int} (qh : 0 ≤ qz) : (-9223372036854775808 : Int) < qz := Int.lt_of_lt_of_le (by decide) qh
theorem al' {qz : Int} (qh : 0 ≤ qz) : (-2 ^ 63 : Int) ≤ qz := Int.le_trans (by decide) qh
theorem am {qz : Int} {ql : Nat} (qh : 0 ≤ qz) : -(ql : Int) ≤ qz := Int.le_trans (Int.neg_nonpos_of_nonneg (az ql)) qh
theorem ap1 {qP ql qj : Nat} (qh : qP + qj ≤ ql) (qc : Nat.ble 1 qj = true) : (qP : Int) < (ql : Int) := Int.ofNat_lt.mpr (Nat.lt_of_lt_of_le (Nat.lt_add_of_pos_right (Nat.le_of_ble_eq_true qc)) qh)
theorem ap {qP ql qj qk : Nat} (qh : qP + qj ≤ ql) (qc : Nat.ble qk qj = true) : qP + qk ≤ ql := Nat.le_trans (Nat.add_le_add_left (Nat.le_of_ble_eq_true qc) qP) qh
theorem ap2 {qP ql qj : Nat} (qh : qP + qj ≤ ql) (qc : Nat.ble 2 qj = true) : (qP : Int) + 1 < (ql : Int) := Int.ofNat_lt.mpr (show qP + 2 ≤ ql from ap qh qc)
theorem ap3 {qP ql qj : Nat} (qh : qP + qj ≤ ql) (qc : Nat.ble 3 qj = true) : (qP : Int) + 1 + 1 < (ql : Int) := Int.ofNat_lt.mpr (show qP + 3 ≤ ql from ap qh qc)
theorem ap4 {qP ql qj : Nat} (qh : qP + qj ≤ ql) (qc : Nat.ble 4 qj = true) : (qP : Int) + 1 + 1 + 1 < (ql : Int) := Int.ofNat_lt.mpr (show qP + 4 ≤ ql from ap qh qc)
theorem ao {qz : Int} {ql qk : Nat} (qh : qz < (ql : Int)) (qhl : ql ≤ qk) (qc : Nat.ble qk 1000000000 = true) : qz < 9223372036854775808 := Int.lt_trans (Int.lt_of_lt_of_le qh (Int.ofNat_le.mpr (Nat.le_trans qhl (Nat.le_of_ble_eq_true qc)))) (by decide)
theorem ao0 {ql qk : Nat} (qhl : ql ≤ qk) (qc : Nat.ble qk 1000000000 = true) : (ql : Int) < 9223372036854775808 := Int.lt_of_le_of_lt (Int.ofNat_le.mpr (Nat.le_trans qhl (Nat.le_of_ble_eq_true qc))) (by decide)
theorem aq {qa qb : Nat} (qh : qa < qb) : (qa : Int) < (qb : Int) := Int.ofNat_lt.mpr qh
theorem aq' {qa qb : Nat} (qh : qa = qb) : (qa : Int) = (qb : Int) := qh ▸ rfl
theorem al0 {qn : Nat} : (-9223372036854775808 : Int) < (qn : Int) := al (az qn)
theorem al1 {qn : Nat} : (-9223372036854775808 : Int) < (qn : Int) + 1 := al (an (az qn))
theorem al2 {qn : Nat} : (-9223372036854775808 : Int) < (qn : Int) + 1 + 1 := al (an (an (az qn)))
theorem al3 {qn : Nat} : (-9223372036854775808 : Int) < (qn : Int) + 1 + 1 + 1 := al (an (an (an (az qn))))
theorem am0 {qn ql : Nat} : -(ql : Int) ≤ (qn : Int) := am (az qn)
theorem am1 {qn ql : Nat} : -(ql : Int) ≤ (qn : Int) + 1 := am (an (az qn))
theorem am2 {qn ql : Nat} : -(ql : Int) ≤ (qn : Int) + 1 + 1 := am (an (an (az qn)))
theorem am3 {qn ql : Nat} : -(ql : Int) ≤ (qn : Int) + 1 + 1 + 1 := am (an (an (an (az qn))))
theorem aoa {qP ql qk : Nat} (qh : qP < ql) (qhl : ql ≤ qk) (qc : Nat.ble qk 1000000000 = true) : (qP : Int) < 9223372036854775808 := ao (aq qh) qhl qc
theorem ao1 {qP ql qj qk : Nat} (qh : qP + qj ≤ ql) (qi : Nat.ble 1 qj = true) (qhl : ql ≤ qk) (qc : Nat.ble qk 1000000000 = true) : (qP : Int) < 9223372036854775808 := ao (ap1 qh qi) qhl qc
theorem ao2 {qP ql qj qk : Nat} (qh : qP + qj ≤ ql) (qi : Nat.ble 2 qj = true) (qhl : ql ≤ qk) (qc : Nat.ble qk 1000000000 = true) : (qP : Int) + 1 < 9223372036854775808 := ao (ap2 qh qi) qhl qc
theorem ao3 {qP ql qj qk : Nat} (qh : qP + qj ≤ ql) (qi : Nat.ble 3 qj = true) (qhl : ql ≤ qk) (qc : Nat.ble qk 1000000000 = true) : (qP : Int) + 1 + 1 < 9223372036854775808 := ao (ap3 qh qi) qhl qc
theorem ao4 {qP ql qj qk : Nat} (qh : qP + qj ≤ ql) (qi : Nat.ble 4 qj = true) (qhl : ql ≤ qk) (qc : Nat.ble qk 1000000000 = true) : (qP : Int) + 1 + 1 + 1 < 9223372036854775808 := ao (ap4 qh qi) qhl qc
theorem ab {qa : Nat} : 0 ≤ qa := Nat.zero_le qa
theorem ac {qa qb : Nat} (qc : Nat.ble qa qb = true) : qa ≤ qb := Nat.le_of_ble_eq_true qc
theorem nb1 {qn qj : Nat} (qh : 0 < qn) : qn - 1 - qj < qn := Nat.lt_of_le_of_lt (Nat.sub_le _ _) (Nat.sub_lt qh Nat.one_pos)
theorem nb2 {qp qn qk : Nat} (qh : qn ≤ qp) (qi : qk < qn) : qp - 1 - (qn - 1 - qk) = qp - qn + qk := by
  obtain ⟨d, rfl⟩ := Nat.exists_eq_add_of_le qh
  obtain ⟨e, rfl⟩ := Nat.exists_eq_add_of_lt qi
  rw [Nat.add_sub_cancel_left, Nat.add_sub_cancel, Nat.add_sub_cancel_left, Nat.sub_sub, Nat.add_comm 1 e]
  rw [show qk + e + 1 + d = d + qk + (e + 1) by rw [Nat.add_comm, Nat.add_assoc qk, Nat.add_assoc d], Nat.add_sub_cancel]
theorem nb3 {qp qn qk ql : Nat} (qh : qn ≤ qp) (qi : qk < qn) (qj : qp ≤ ql) : qp - qn + qk < ql := Nat.lt_of_lt_of_le (Nat.add_lt_add_left qi _) (Nat.le_trans (Nat.le_of_eq (Nat.sub_add_cancel qh)) qj)
theorem nb4 {qp qn ql : Nat} (qh : qn ≤ qp) (qj : qp ≤ ql) : min qn (ql - (qp - qn)) = qn := Nat.min_eq_left (Nat.le_sub_of_add_le (Nat.le_trans (Nat.le_of_eq (Nat.add_sub_cancel' qh)) qj))
theorem nb5 {qu qn qj : Nat} (qh : qj < qn) : qu + qn - 1 - qj = qu + (qn - 1 - qj) := by rw [Nat.sub_sub, Nat.add_comm 1, Nat.add_sub_assoc qh, Nat.sub_sub, Nat.add_comm 1]
theorem nb6 {qn qj ql : Nat} (qh : 0 < qn) (qi : qn ≤ ql) : qn - 1 - qj < ql := Nat.lt_of_lt_of_le (nb1 qh) qi
theorem nb7 {qa qb : Nat} (qh : 0 < qa) (qi : qa ≤ qb) : min (qa - 1) qb = qa - 1 := Nat.min_eq_left (Nat.le_trans (Nat.sub_le _ _) qi)
theorem nb8 {qn qi : Nat} (qh : qi ≤ qn) : (qn + 1) - (qi + 1) < (qn + 1) - qi := Nat.sub_lt_sub_left (Nat.lt_succ_of_le qh) (Nat.lt_succ_self qi)
theorem nb9 {qa : Nat} (qh : 2 ≤ qa) : qa - 1 - 1 < qa - 1 := Nat.sub_lt (Nat.le_sub_of_add_le qh) Nat.one_pos
theorem nb10 {qa qb : Nat} (qh : 2 ≤ qa) (qi : qa ≤ qb) : qa - 1 < qb := Nat.lt_of_lt_of_le (Nat.sub_lt (Nat.lt_of_lt_of_le Nat.two_pos qh) Nat.one_pos) qi
theorem nb11 {qu qr : Nat} (qh : 1 ≤ qr) : qu + qr + 1 - 1 - 1 = qu + (qr - 1) := by rw [Nat.add_sub_cancel, Nat.add_sub_assoc qh]
theorem nb12 {qi qj qn qk : Nat} (qh : qk = qn + 1 - qi) (qc : qj < qk - 1) : qi + qj < qn := Nat.add_lt_of_lt_sub' (by rw [qh, Nat.sub_sub, Nat.add_sub_add_right] at qc; exact qc)
theorem nb13 {qa qb : Nat} (qh : qa ≤ qb) : (max (qa : Int) (qb : Int)).toNat = qb := by rw [Int.max_eq_right (Int.ofNat_le.mpr qh)]; rfl
theorem nb14 {qa qb : Nat} : (-(qa : Int) + (qb : Int)).toNat = qb - qa := by rw [Int.add_comm]; exact Int.toNat_sub _ _
theorem nb15 {qk qn : Nat} (qh : qk ≤ qn) : -(qk : Int) + (qn : Int) = ((qn - qk : Nat) : Int) := by rw [Int.add_comm, Int.ofNat_sub qh]; rfl
theorem nb16 {qk : Nat} (qh : 0 < qk) : -(qk : Int) < 0 := Int.neg_neg_of_pos (Int.ofNat_lt.mpr qh)
theorem az1 {qn qi : Nat} (qh : qi < qn) : (-(1 + (qi : Int) * 1) + (qn : Int)).toNat = qn - (1 + qi) := by rw [Int.mul_one]; exact nb14 (qa := 1 + qi)
theorem az2 {qn qi : Nat} (qh : qi < qn) : qn - (1 + qi) < qn := Nat.sub_lt (Nat.zero_lt_of_lt qh) (by rw [Nat.add_comm]; exact Nat.succ_pos qi)
end
section
/-- a load: of an object that is told (v), else of one that is known (w) -/
noncomputable def pick {α β γ : Type} (v w : Option Obj) (b : Heap) (a : Addr) (f : Obj → Option (α × β × List (Heap × Addr × Obj × Bool) × γ)) : Option (α × β × List (Heap × Addr × Obj × Bool) × γ) := v.elim (w.elim none f) fun o => (f o).map fun z => (z.1, z.2.1, (b, a, o, false) :: z.2.2.1, z.2.2.2)
noncomputable def pickU {α β γ : Type} (v : Option Obj) (b : Heap) (a : Addr) (f : Option (α × β × List (Heap × Addr × Obj × Bool) × γ)) : Option (α × β × List (Heap × Addr × Obj × Bool) × γ) := v.elim none fun o => f.map fun z => (z.1, z.2.1, (b, a, o, true) :: z.2.2.1, z.2.2.2)
noncomputable def pickC {α β γ : Type} (h : Option Value) (v : Option (Value × Shared)) (c : Code) (s : Shared) (f : Value × Shared → Option (α × β × γ × List (Code × Shared × Value × Shared))) : Option (α × β × γ × List (Code × Shared × Value × Shared)) :=
  h.elim (v.elim none fun r => (f r).map fun z => (z.1, z.2.1, z.2.2.1, (c, s, r.1, r.2) :: z.2.2.2)) fun _ => none
/-- runs a tree in the kernel: what it loads is known (K) or told (ls), what it calls is told (cs); gives the end and what was told -/
noncomputable def ev {α : Type} (K : Frag) (S : Setting) (t : Sem α) : List (Option Obj) → List (Value × Shared) → Shared → Option (α × Shared × List (Heap × Addr × Obj × Bool) × List (Code × Shared × Value × Shared)) :=
  t.rec (motive := fun _ => List (Option Obj) → List (Value × Shared) → Shared → Option (α × Shared × List (Heap × Addr × Obj × Bool) × List (Code × Shared × Value × Shared)))
    (fun a _ _ s => some (a, s, [], []))
    (fun _ _ _ _ => none) (fun _ _ _ _ => none) (fun _ _ _ _ => none)
    (fun _ _ ih => ih ())
    (fun _ _ ih => ih ())
    (fun a _ _ ih ls cs s => pick ls.head?.join (K.lookup a) s.heap a fun o => ih o ls.tail cs s)
    (fun a _ f _ ih ls cs s => pickU ls.head?.join s.heap a (ih () ls.tail cs { s with heap := s.heap.update a f }))
    (fun o _ ih ls cs s => ih s.heap.objs.size ls cs { s with heap := s.heap.push o })
    (fun _ _ _ _ _ _ => none)
    (fun _ _ ih => ih ())
    (fun _ _ _ _ _ _ => none)
    (fun _ ih ls cs s => ih s.toks ls cs { s with toks := s.toks + 1 })
    (fun _ ih => ih S)
    (fun _ _ _ _ _ _ _ => none) (fun _ _ _ _ _ _ _ => none)
    (fun c h _ _ _ ih ls cs s => pickC h cs.head? c s fun r => ih (.ok (.ret r.1)) ls cs.tail r.2)
    (fun _ _ _ _ _ _ => none) (fun _ _ _ _ _ _ => none) (fun _ _ _ _ _ _ => none) (fun _ _ _ _ _ _ _ _ => none) (fun _ _ _ _ _ _ _ _ => none)
    (fun _ _ _ _ _ => none) (fun _ _ _ _ _ _ => none) (fun _ _ _ _ _ => none) (fun _ _ _ _ _ _ _ _ _ => none)
theorem pick_cases {α β γ : Type} {v w : Option Obj} {b : Heap} {a : Addr} {f : Obj → Option (α × β × List (Heap × Addr × Obj × Bool) × γ)} {r : α × β × List (Heap × Addr × Obj × Bool) × γ} {P : Prop} (e : pick v w b a f = some r) (h1 : ∀ o, w = some o → f o = some r → P)
    (h2 : ∀ o z, f o = some z → r = (z.1, z.2.1, (b, a, o, false) :: z.2.2.1, z.2.2.2) → P) : P := by
  cases v with
  | none =>
    cases w with
    | none => exact nomatch e
    | some o => exact h1 o rfl e
  | some o =>
    obtain ⟨z, e1, e2⟩ := Option.map_eq_some_iff.mp e
    exact h2 o z e1 e2.symm
theorem pickU_cases {α β γ : Type} {v : Option Obj} {b : Heap} {a : Addr} {f : Option (α × β × List (Heap × Addr × Obj × Bool) × γ)} {r : α × β × List (Heap × Addr × Obj × Bool) × γ} {P : Prop} (e : pickU v b a f = some r)
    (h2 : ∀ o z, f = some z → r = (z.1, z.2.1, (b, a, o, true) :: z.2.2.1, z.2.2.2) → P) : P := by
  cases v with
  | none => exact nomatch e
  | some o =>
    obtain ⟨z, e1, e2⟩ := Option.map_eq_some_iff.mp e
    exact h2 o z e1 e2.symm
theorem pickC_cases {α β γ : Type} {h : Option Value} {v : Option (Value × Shared)} {c : Code} {s : Shared} {f : Value × Shared → Option (α × β × γ × List (Code × Shared × Value × Shared))} {y : α × β × γ × List (Code × Shared × Value × Shared)} {P : Prop} (e : pickC h v c s f = some y)
    (h1 : ∀ r z, h = none → f r = some z → y = (z.1, z.2.1, z.2.2.1, (c, s, r.1, r.2) :: z.2.2.2) → P) : P := by
  cases h with
  | some _ => exact nomatch e
  | none =>
    cases v with
    | none => exact nomatch e
    | some r =>
      obtain ⟨z, e1, e2⟩ := Option.map_eq_some_iff.mp e
      exact h1 r z rfl e1 e2.symm
theorem no_some {β : Type} {P : Prop} {y : β} (e : (none : Option β) = some y) : P := nomatch e
noncomputable def Told (K : Frag) (l : List (Heap × Addr × Obj × Bool)) : Prop := ∀ z ∈ l, z.1.get? z.2.1 = some z.2.2.1 ∧ (z.2.2.2 = true → K.lookup z.2.1 = none)
noncomputable def EvOk {α : Type} (K : Frag) (M : Model) (Γ : PySem.Ctx) (Q : α → Shared → Prop) (E : Value → Shared → Prop) (t : Sem α) : Prop :=
  ∀ ls cs s p (r : α × Shared × List (Heap × Addr × Obj × Bool) × List (Code × Shared × Value × Shared)), ev K ⟨M.prog, M.w.params⟩ t ls cs s = some r → K.In s.heap → Told K r.2.2.1 →
    (∀ z ∈ r.2.2.2, (K.In z.2.1.heap → K.In z.2.2.2.heap) ∧ ∀ p R, R (.ok (.ret z.2.2.1)) z.2.2.2 → PySem.wpCode M (Γ.enter z.1 none p) R p z.2.1) → Q r.1 r.2.1 → Sem.wp M Γ t (fun a _ s => Q a s) (fun e _ s => E e s) p s
section
variable {α : Type} {K : Frag} {M : Model} {Γ : PySem.Ctx} {Q : α → Shared → Prop} {E : Value → Shared → Prop}
theorem EvOk.no {t : Sem α} (h : ∀ ls cs s, ev K ⟨M.prog, M.w.params⟩ t ls cs s = none) : EvOk K M Γ Q E t := fun _ _ _ _ _ e => no_some ((h _ _ _).symm.trans e)
theorem EvOk.load {a : Addr} {u : Option Value} {k : Obj → Sem α} (ih : ∀ o, EvOk K M Γ Q E (k o)) : EvOk K M Γ Q E (.load a u k) := fun ls cs s p r e x hl hc q =>
  pick_cases (f := fun o => ev K ⟨M.prog, M.w.params⟩ (k o) ls.tail cs s) e (fun o ho e => ⟨o, x _ _ ho, ih o _ cs s p r e x hl hc q⟩) fun o z ez er => by
    subst er
    exact ⟨o, (hl _ (.head _)).1, ih o _ cs s p z ez x (fun y hy => hl y (.tail _ hy)) hc q⟩
theorem EvOk.update {a : Addr} {u : Option Value} {f : Obj → Obj} {k : Unit → Sem α} (ih : ∀ o, EvOk K M Γ Q E (k o)) : EvOk K M Γ Q E (.update a u f k) := fun ls cs s p r e x hl hc q =>
  pickU_cases (f := ev K ⟨M.prog, M.w.params⟩ (k ()) ls.tail cs { s with heap := s.heap.update a f }) e fun o z ez er => by
    subst er
    have ha := hl _ (.head _)
    exact ⟨by rw [ha.1]; rfl, ih () _ cs _ p z ez (fun b o hb => Heap.get?_update_of_ne f (fun h => by rw [← h, ha.2 rfl] at hb; cases hb) (x _ _ hb)) (fun y hy => hl y (.tail _ hy)) hc q⟩
theorem EvOk.call {c : Code} {h : Option Value} {g : Bool} {l : List Value} {k : Result → Sem α} (ih : ∀ r, EvOk K M Γ Q E (k r)) : EvOk K M Γ Q E (.call c h g l k) := fun ls cs s p r e x hl hc q =>
  pickC_cases (f := fun v => ev K ⟨M.prog, M.w.params⟩ (k (.ok (.ret v.1))) ls cs.tail v.2) e fun v z hh ez er => by
    subst hh er
    have hk := hc _ (.head _)
    exact hk.2 p _ (ih _ ls _ v.2 p z ez (hk.1 x) hl (fun y hy => hc y (.tail _ hy)) q)
theorem evOk (t : Sem α) : EvOk K M Γ Q E t := by
  induction t with
  | pure b => exact fun _ _ s _ r e _ _ _ q => by cases e; exact q
  | rule _ k ih => exact ih ()
  | «at» p' k ih => exact fun ls cs s _ => ih () ls cs s p'
  | point _ k ih => exact ih ()
  | ask k ih => exact ih _
  | fresh k ih => exact fun ls cs s => ih _ ls cs { s with toks := s.toks + 1 }
  | alloc o k ih => exact fun ls cs s p r e x => ih _ ls cs { s with heap := s.heap.push o } p r e (x.keeps fun b y h => Heap.get?_push_of_some _ h)
  | load a _ k ih => exact .load ih
  | update a _ f k ih => exact .update ih
  | call c h _ _ k ih => exact .call ih
  | _ => exact .no fun _ _ _ => rfl
end
section
variable {α : Type} {K : Frag} {M : Model} {A : Around} {a : α} {s' : Shared} {t : Sem α} {Q : α → Shared → Prop} {E : Value → Shared → Prop} {s s₁ : Shared} {y : Addr} {o : Obj}
theorem run_evs {ls : List (Option Obj)} {cs : List (Value × Shared)} {o1 : List (Heap × Addr × Obj × Bool)} {o2 : List (Code × Shared × Value × Shared)} (x : K.In s.heap) (hl : Told K o1)
    (hc : ∀ z ∈ o2, (K.In z.2.1.heap → K.In z.2.2.2.heap) ∧ ∀ A R, R (.ok (.ret z.2.2.1)) z.2.2.2 → codeAny M A z.1 R z.2.1) (q : Q a s') (e : ev K ⟨M.prog, M.w.params⟩ t ls cs s = some (a, s', o1, o2)) : wpAny M A t Q E s :=
  fun Γ p hΓ => evOk t ls cs s p (a, s', o1, o2) e x hl (fun z hz => ⟨(hc z hz).1, fun p R hR => (hc z hz).2 _ R hR _ p rfl (hΓ.enter _ none p fun h => nomatch h)⟩) q
theorem told_n {h : Heap} (hy : h.get? y = some o) (n : Nat) : Told K (List.replicate n (h, y, o, false)) := fun z hz => by rw [List.eq_of_mem_replicate hz]; exact ⟨hy, fun h => nomatch h⟩
theorem told0 : Told K [] := List.forall_mem_nil _
theorem told1 {h : Heap} {l : List (Heap × Addr × Obj × Bool)} (hy : h.get? y = some o) (hl : Told K l) : Told K ((h, y, o, false) :: l) := List.forall_mem_cons.mpr ⟨⟨hy, fun h => nomatch h⟩, hl⟩
theorem toldU {h : Heap} {l : List (Heap × Addr × Obj × Bool)} (hy : h.get? y = some o) (hk : K.lookup y = none) (hl : Told K l) : Told K ((h, y, o, true) :: l) := List.forall_mem_cons.mpr ⟨⟨hy, fun _ => hk⟩, hl⟩
/-- a tree that loads nothing but what is known -/
theorem run_ev (x : K.In s.heap) (q : Q a s') (e : ev K ⟨M.prog, M.w.params⟩ t [] [] s = some (a, s', [], [])) : wpAny M A t Q E s := run_evs x (List.forall_mem_nil _) (List.forall_mem_nil _) q e
/-- what is loaded beside K: as ls says -/
theorem run_evl (n : Nat) (ls : List (Option Obj)) (x : K.In s.heap) (hy : s.heap.get? y = some o) (q : Q a s') (e : ev K ⟨M.prog, M.w.params⟩ t ls [] s = some (a, s', List.replicate n (s.heap, y, o, false), [])) : wpAny M A t Q E s := run_evs x (told_n hy n) (List.forall_mem_nil _) q e
/-- a tree whose first load is of an object more -/
theorem run_ev1 (x : K.In s.heap) (hy : s.heap.get? y = some o) (q : Q a s') (e : ev K ⟨M.prog, M.w.params⟩ t [some o] [] s = some (a, s', [(s.heap, y, o, false)], [])) : wpAny M A t Q E s := run_evl 1 [some o] x hy q e
theorem run_evn (n : Nat) (x : K.In s.heap) (hy : s.heap.get? y = some o) (q : Q a s') (e : ev K ⟨M.prog, M.w.params⟩ t (List.replicate n (some o)) [] s = some (a, s', List.replicate n (s.heap, y, o, false), [])) : wpAny M A t Q E s := run_evl n _ x hy q e
/-- the same with one call -/
theorem run_evc (n : Nat) {c : Code} {r : Value × Shared} (x : K.In s.heap) (hy : s.heap.get? y = some o) (hk : K.In s₁.heap → K.In r.2.heap) (hc : ∀ A R, R (.ok (.ret r.1)) r.2 → codeAny M A c R s₁)
    (q : Q a s') (e : ev K ⟨M.prog, M.w.params⟩ t (List.replicate n (some o)) [r] s = some (a, s', List.replicate n (s.heap, y, o, false), [(c, s₁, r.1, r.2)])) : wpAny M A t Q E s :=
  run_evs x (told_n hy n) (fun z hz => by rw [List.mem_singleton.mp hz]; exact ⟨hk, hc⟩) q e
end
end
section
section
variable {M : Model} {A : Around} {E : Value → Shared → Prop} {s : Shared} {env : Env}
noncomputable abbrev kCons (M : Model) (A : Around) (E : Value → Shared → Prop) (env : Env) (rest : List Stmt) (Q : Flow → Shared → Prop) : Flow → Shared → Prop := fun f s' => match f with
  | .next => wpAny M A (execs rest env) Q E s'
  | f => Q f s'
theorem consN {st : Stmt} {rest : List Stmt} {Q : Flow → Shared → Prop} (h : wpAny M A (exec st env) (kCons M A E env rest Q) E s) : wpAny M A (execs (st :: rest) env) Q E s := wpAny_execs_cons h
noncomputable abbrev kNext (Q : Flow → Shared → Prop) : Unit → Shared → Prop := fun _ => Q .next
noncomputable abbrev kDrop (Q : Flow → Shared → Prop) : Value → Shared → Prop := fun _ => Q .next
noncomputable abbrev kRet (Q : Flow → Shared → Prop) : Value → Shared → Prop := fun v => Q (.ret v)
theorem exprN {prog : Program} {w : World} {e : Expr} {pos : Pos} {Q : Flow → Shared → Prop} (h : wpAny (model prog w) A (eval e env) (kDrop Q) E s) (h1 : interactive env = false := by with_unfolding_all rfl) (h2 : swapsWith e none pos.line env = pure false := by with_unfolding_all rfl) :
    wpAny (model prog w) A (exec (.Expr e pos) env) Q E s := wpAny_Expr_any h h1 h2
theorem retN {e : Expr} {pos : Pos} {Q : Flow → Shared → Prop} (h : wpAny M A (eval e env) (kRet Q) E s) : wpAny M A (exec (.Return (some e) pos) env) Q E s := wpAny_Return_some h
noncomputable abbrev kAsg (M : Model) (A : Around) (E : Value → Shared → Prop) (env : Env) (x : Str) (Q : Flow → Shared → Prop) : Value → Shared → Prop := fun v s₁ => wpAny M A (storeName env x v) (kNext Q) E s₁
theorem asgN {x : Str} {pos' : Pos} {value : Expr} {pos : Pos} {Q : Flow → Shared → Prop} (h : wpAny M A (eval value env) (kAsg M A E env x Q) E s) (hs : swapsWith value (some (.Name x pos')) pos.line env = pure false := by with_unfolding_all rfl) :
    wpAny M A (exec (.Assign [.Name x pos'] value pos) env) Q E s := wpAny_Assign_Name h hs
noncomputable abbrev kAug2 (M : Model) (A : Around) (E : Value → Shared → Prop) (env : Env) (x : Str) (op : Operator) (old : Value) (Q : Flow → Shared → Prop) : Value → Shared → Prop := fun v s₂ => wpAny M A (inplaceOp op old v) (kAsg M A E env x Q) E s₂
noncomputable abbrev kAug (M : Model) (A : Around) (E : Value → Shared → Prop) (env : Env) (x : Str) (op : Operator) (value : Expr) (Q : Flow → Shared → Prop) : Value → Shared → Prop := fun old s₁ => wpAny M A (eval value env) (kAug2 M A E env x op old Q) E s₁
theorem augN {x : Str} {pos' : Pos} {op : Operator} {value : Expr} {pos : Pos} {Q : Flow → Shared → Prop} (h : wpAny M A (loadName env x) (kAug M A E env x op value Q) E s) : wpAny M A (exec (.AugAssign (.Name x pos') op value pos) env) Q E s := wpAny_AugAssign_Name h
noncomputable abbrev kIf (M : Model) (A : Around) (E : Value → Shared → Prop) (env : Env) (body orelse : List Stmt) (Q : Flow → Shared → Prop) : Bool → Shared → Prop := fun b s₂ => if b = true then wpAny M A (execs body env) Q E s₂ else wpAny M A (execs orelse env) Q E s₂
theorem ifN {test : Expr} {body orelse : List Stmt} {pos : Pos} {Q : Flow → Shared → Prop} (h : wpAny M A (isTrue test env (eval test env)) (kIf M A E env body orelse Q) E s) : wpAny M A (exec (.If test body orelse pos) env) Q E s := wpAny_If h
noncomputable abbrev kTru (M : Model) (A : Around) (E : Value → Shared → Prop) (Q : Bool → Shared → Prop) : Value → Shared → Prop := fun c s => wpAny M A (truthy c) Q E s
noncomputable abbrev kCmp2 (M : Model) (A : Around) (E : Value → Shared → Prop) (op : CmpOp) (a : Value) (Q : Value → Shared → Prop) : Value → Shared → Prop := fun b s₂ => wpAny M A (compareOp op a b) Q E s₂
noncomputable abbrev kCmp (M : Model) (A : Around) (E : Value → Shared → Prop) (env : Env) (op : CmpOp) (r : Expr) (Q : Value → Shared → Prop) : Value → Shared → Prop := fun a s₁ => wpAny M A (eval r env) (kCmp2 M A E op a Q) E s₁
theorem cmpT {l : Expr} {op : CmpOp} {r : Expr} {pos : Pos} {whole : Sem Value} {Q : Bool → Shared → Prop} (h : wpAny M A (eval l env) (kCmp M A E env op r (kTru M A E Q)) E s) (hm : behindInMarks op r = false := by with_unfolding_all rfl) :
    wpAny M A (isTrue (.Compare l [op] [r] pos) env whole) Q E s := wpAny_isTrue_Compare1 h hm
theorem cmpE {l : Expr} {op : CmpOp} {r : Expr} {pos : Pos} {Q : Value → Shared → Prop} (h : wpAny M A (eval l env) (kCmp M A E env op r Q) E s) (hm : behindInMarks op r = false := by with_unfolding_all rfl) :
    wpAny M A (eval (.Compare l [op] [r] pos) env) Q E s := wpAny_Compare1 h hm
noncomputable abbrev kBin2 (M : Model) (A : Around) (E : Value → Shared → Prop) (op : Operator) (a : Value) (Q : Value → Shared → Prop) : Value → Shared → Prop := fun b s₂ => wpAny M A (binaryOp op a b) Q E s₂
noncomputable abbrev kBin (M : Model) (A : Around) (E : Value → Shared → Prop) (env : Env) (op : Operator) (r : Expr) (Q : Value → Shared → Prop) : Value → Shared → Prop := fun a s₁ => wpAny M A (eval r env) (kBin2 M A E op a Q) E s₁
theorem binN {l : Expr} {op : Operator} {r : Expr} {pos : Pos} {Q : Value → Shared → Prop} (h : wpAny M A (eval l env) (kBin M A E env op r Q) E s) : wpAny M A (eval (.BinOp l op r pos) env) Q E s := wpAny_BinOp h
noncomputable abbrev kSub2 (M : Model) (A : Around) (E : Value → Shared → Prop) (value slice : Expr) (o : Value) (Q : Value → Shared → Prop) : Value → Shared → Prop := fun i s₂ => wpAny M A (subscriptTail value slice o i) Q E s₂
noncomputable abbrev kSub (M : Model) (A : Around) (E : Value → Shared → Prop) (env : Env) (value slice : Expr) (Q : Value → Shared → Prop) : Value → Shared → Prop := fun o s₁ => wpAny M A (eval slice env) (kSub2 M A E value slice o Q) E s₁
theorem subN {value slice : Expr} {pos : Pos} {Q : Value → Shared → Prop} (h : wpAny M A (eval value env) (kSub M A E env value slice Q) E s) : wpAny M A (eval (.Subscript value slice pos) env) Q E s := Subscript_ h
noncomputable abbrev kSl3 (Q : Value → Shared → Prop) (l u : Value) : Value → Shared → Prop := fun st s₃ => Q (.ref s₃.heap.objs.size) { s₃ with heap := s₃.heap.push { cls := .type "slice", data := .fields #[l, u, st] } }
noncomputable abbrev kSl2 (M : Model) (A : Around) (E : Value → Shared → Prop) (env : Env) (step : Option Expr) (Q : Value → Shared → Prop) (l : Value) : Value → Shared → Prop := fun u s₂ => wpAny M A (evalPart step env) (kSl3 Q l u) E s₂
noncomputable abbrev kSl (M : Model) (A : Around) (E : Value → Shared → Prop) (env : Env) (upper step : Option Expr) (Q : Value → Shared → Prop) : Value → Shared → Prop := fun l s₁ => wpAny M A (evalPart upper env) (kSl2 M A E env step Q l) E s₁
theorem sliceN {lower upper step : Option Expr} {p : Pos} {Q : Value → Shared → Prop} (h : wpAny M A (evalPart lower env) (kSl M A E env upper step Q) E s) : wpAny M A (eval (.Slice lower upper step p) env) Q E s := wpAny_Slice h
noncomputable abbrev kArg2 (Q : List Value → Shared → Prop) (v : Value) : List Value → Shared → Prop := fun vs s₂ => Q (v :: vs) s₂
noncomputable abbrev kArg (M : Model) (A : Around) (E : Value → Shared → Prop) (env : Env) (pos : Pos) (rest : List Expr) (Q : List Value → Shared → Prop) : Value → Shared → Prop := fun v s₁ => wpAny M A (spliced (backTo pos (starEach rest env))) (kArg2 Q v) E s₁
theorem argN {e : Expr} {rest : List Expr} {pos : Pos} {Q : List Value → Shared → Prop} (h : wpAny M A (eval e env) (kArg M A E env pos rest Q) E s) (hs : starEach (e :: rest) env = (false, eval e env) :: starEach rest env := by rfl) :
    wpAny M A (spliced (backTo pos (starEach (e :: rest) env))) Q E s := args_cons h hs
noncomputable abbrev kCall (M : Model) (A : Around) (E : Value → Shared → Prop) (env : Env) (pos : Pos) (args : List Expr) (Q : Value → Shared → Prop) : Value → Shared → Prop := fun f s₁ => wpAny M A (callWith pos f [] (backTo pos (starEach args env)) []) Q E s₁
theorem callN {func : Expr} {args : List Expr} {pos : Pos} {Q : Value → Shared → Prop} (h : wpAny M A (eval func env) (kCall M A E env pos args Q) E s)
    (hp : eval (.Call func args [] pos) env = (do let f ← eval func env; callWith pos f [] (backTo pos (starEach args env)) (backToKw pos (keywordEach [] env))) := by with_unfolding_all rfl) : wpAny M A (eval (.Call func args [] pos) env) Q E s := Call_ h hp
noncomputable abbrev kMet2 (M : Model) (A : Around) (E : Value → Shared → Prop) (env : Env) (pos : Pos) (args : List Expr) (Q : Value → Shared → Prop) : Value × List Value → Shared → Prop := fun fx s₂ => wpAny M A (callWith pos fx.1 fx.2 (backTo pos (starEach args env)) []) Q E s₂
noncomputable abbrev kMet (M : Model) (A : Around) (E : Value → Shared → Prop) (env : Env) (name : Str) (pl : Sem Bool) (pos : Pos) (args : List Expr) (Q : Value → Shared → Prop) : Value → Shared → Prop := fun ov s₁ => wpAny M A (getMethod ov name pl) (kMet2 M A E env pos args Q) E s₁
theorem metN {o : Expr} {name : Str} {apos pos : Pos} {args : List Expr} {pl : Sem Bool} {Q : Value → Shared → Prop} (h : wpAny M A (eval o env) (kMet M A E env name pl pos args Q) E s)
    (hp : eval (.Call (.Attribute o name apos) args [] pos) env = (do
      let ov ← eval o env
      standAt apos.atName
      let (f, first) ← holding [ov] (getMethod ov name pl)
      callWith pos f first (backTo pos (starEach args env)) []) := by with_unfolding_all rfl) : wpAny M A (eval (.Call (.Attribute o name apos) args [] pos) env) Q E s := MethodCall_ h hp
noncomputable abbrev kBlt (M : Model) (A : Around) (E : Value → Shared → Prop) (f : Value) (first : List Value) (Q : Value → Shared → Prop) : List Value → Shared → Prop := fun vs s₁ => wpAny M A (call f (first ++ vs)) Q E s₁
theorem bltN {pos : Pos} {id : String} {first : List Value} {e : Expr} {rest : List Expr} {Q : Value → Shared → Prop} (h : wpAny M A (spliced (backTo pos (starEach (e :: rest) env))) (kBlt M A E (.builtin id) first Q) E s)
    (h1 : starEach (e :: rest) env = (false, eval e env) :: starEach rest env := by rfl) (h2 : (backTo pos (starEach rest env)).any (·.1) = false := by rfl) :
    wpAny M A (callWith pos (.builtin id) first (backTo pos (starEach (e :: rest) env)) []) Q E s := callWith_method1 h h1 h2
noncomputable abbrev kBlt0 (M : Model) (A : Around) (E : Value → Shared → Prop) (f : Value) (Q : Value → Shared → Prop) : List Value → Shared → Prop := fun vs s₁ => wpAny M A (call f vs) Q E s₁
theorem blt0N {pos : Pos} {id : String} {e : Expr} {rest : List Expr} {Q : Value → Shared → Prop} (h : wpAny M A (spliced (backTo pos (starEach (e :: rest) env))) (kBlt0 M A E (.builtin id) Q) E s)
    (h1 : starEach (e :: rest) env = (false, eval e env) :: starEach rest env := by rfl) (h2 : (backTo pos (starEach rest env)).any (·.1) = false := by rfl) :
    wpAny M A (callWith pos (.builtin id) [] (backTo pos (starEach (e :: rest) env)) []) Q E s := PyProof.Rows.callWith_builtin1 h h1 h2
noncomputable abbrev kAtt (M : Model) (A : Around) (E : Value → Shared → Prop) (attr : Str) (Q : Value → Shared → Prop) : Value → Shared → Prop := fun o s₁ => wpAny M A (getAttr o attr true) Q E s₁
theorem attN {x attr : Str} {xp pos : Pos} {Q : Value → Shared → Prop} (h : wpAny M A (eval (.Name x xp) env) (kAtt M A E attr Q) E s)
    (hp : eval (.Attribute (.Name x xp) attr pos) env = (do
      let o ← eval (.Name x xp) env
      standAt pos.atName
      let r ← holding [o] (getAttr o attr true)
      letTemporaryGo (.Name x xp) o r
      pure r) := by with_unfolding_all rfl) : wpAny M A (eval (.Attribute (.Name x xp) attr pos) env) Q E s := Attribute_Name_ h hp
noncomputable abbrev kLst (M : Model) (A : Around) (E : Value → Shared → Prop) (Q : Value → Shared → Prop) : List Value → Shared → Prop := fun vs s₁ => wpAny M A (newList vs) Q E s₁
theorem lstN {elts : List Expr} {pos : Pos} {Q : Value → Shared → Prop} (h : wpAny M A (spliced (backTo pos (starEach elts env))) (kLst M A E Q) E s) : wpAny M A (eval (.List elts pos) env) Q E s := List_ h
noncomputable abbrev kTup (M : Model) (A : Around) (E : Value → Shared → Prop) (Q : Value → Shared → Prop) : List Value → Shared → Prop := fun vs s₁ => wpAny M A (newTuple vs) Q E s₁
theorem tupN {elts : List Expr} {k : Nat} {pos : Pos} {Q : Value → Shared → Prop} (h : wpAny M A (spliced (backTo pos (starEach elts env))) (kTup M A E Q) E s) : wpAny M A (eval (.Tuple elts k pos) env) Q E s := Tuple_ h
noncomputable abbrev kUna (M : Model) (A : Around) (E : Value → Shared → Prop) (op : UnaryOp) (Q : Value → Shared → Prop) : Value → Shared → Prop := fun v s₁ => wpAny M A (unaryOp op v) Q E s₁
theorem unaN {op : UnaryOp} {x : Expr} {pos : Pos} {Q : Value → Shared → Prop} (h : wpAny M A (eval x env) (kUna M A E op Q) E s) : wpAny M A (eval (.UnaryOp op x pos) env) Q E s := UnaryOp_ h
noncomputable abbrev kAnd (M : Model) (A : Around) (E : Value → Shared → Prop) (env : Env) (rest : List Expr) (pos : Pos) (whole : Sem Value) (Q : Bool → Shared → Prop) : Bool → Shared → Prop := fun c s' => if c = true then wpAny M A (isTrue (.BoolOp .And rest pos) env whole) Q E s' else Q false s'
theorem andN {x : Expr} {rest : List Expr} {pos : Pos} {whole : Sem Value} {Q : Bool → Shared → Prop} (h : wpAny M A (isTrue x env (eval x env)) (kAnd M A E env rest pos whole Q) E s) : wpAny M A (isTrue (.BoolOp .And (x :: rest) pos) env whole) Q E s := isTrue_and h
noncomputable abbrev kOr (M : Model) (A : Around) (E : Value → Shared → Prop) (env : Env) (rest : List Expr) (pos : Pos) (whole : Sem Value) (Q : Bool → Shared → Prop) : Bool → Shared → Prop := fun c s' => if c = true then Q true s' else wpAny M A (isTrue (.BoolOp .Or rest pos) env whole) Q E s'
theorem orN {x : Expr} {rest : List Expr} {pos : Pos} {whole : Sem Value} {Q : Bool → Shared → Prop} (h : wpAny M A (isTrue x env (eval x env)) (kOr M A E env rest pos whole Q) E s) : wpAny M A (isTrue (.BoolOp .Or (x :: rest) pos) env whole) Q E s := isTrue_or h
noncomputable abbrev kNot (Q : Bool → Shared → Prop) : Bool → Shared → Prop := fun c s' => Q (!c) s'
theorem notN {x : Expr} {pos : Pos} {whole : Sem Value} {Q : Bool → Shared → Prop} (h : wpAny M A (isTrue x env (eval x env)) (kNot Q) E s) : wpAny M A (isTrue (.UnaryOp .Not x pos) env whole) Q E s := isTrue_not h
theorem plainN {e : Expr} {whole : Sem Value} {Q : Bool → Shared → Prop} (h : wpAny M A whole (kTru M A E Q) E s) (hp : isTrue e env whole = (do let v ← whole; standAt e.pos; holding [v] (truthy v)) := by with_unfolding_all rfl) : wpAny M A (isTrue e env whole) Q E s := isTrue_plain h hp
noncomputable abbrev kJoin (M : Model) (A : Around) (E : Value → Shared → Prop) (out : Str) (rest : List (Sem Value)) (Q : Value → Shared → Prop) : Value → Shared → Prop := fun v s₁ => match v with
  | .str y _ => (out ++ y).length ≤ sizeLine ∧ wpAny M A (joinParts (out ++ y) rest) Q E s₁
  | _ => False
theorem joinN {out : Str} {x : Sem Value} {rest : List (Sem Value)} {Q : Value → Shared → Prop} (h : wpAny M A x (kJoin M A E out rest Q) E s) : wpAny M A (joinParts out (x :: rest)) Q E s := joinParts_cons h
noncomputable abbrev kTgt (M : Model) (A : Around) (E : Value → Shared → Prop) (ts : List (Value → Sem Unit)) (xs : List Value) (Q : Unit → Shared → Prop) : Unit → Shared → Prop := fun _ s₁ => wpAny M A (assignInOrder ts xs) Q E s₁
theorem tgtN {t : Value → Sem Unit} {ts : List (Value → Sem Unit)} {x : Value} {xs : List Value} {Q : Unit → Shared → Prop} (h : wpAny M A (t x) (kTgt M A E ts xs Q) E s) : wpAny M A (assignInOrder (t :: ts) (x :: xs)) Q E s := assignInOrder_cons h
noncomputable abbrev kFun (M : Model) (A : Around) (E : Value → Shared → Prop) (K : Frag) (f : Value) (first : List Value) (Q : Value → Shared → Prop) : List Value → Shared → Prop := fun vs s₁ => K.In s₁.heap ∧ wpAny M A (call f (first ++ vs)) Q E s₁
theorem funN {K : Frag} {pos : Pos} {f : Value} {first : List Value} {Q : Value → Shared → Prop} {h₀ : Heap} {e : Expr} {rest : List Expr} (X : K.In h₀) (hk : keepIn K f = true) (h : wpAny M A (spliced (backTo pos (starEach (e :: rest) env))) (kFun M A E K f first Q) E s)
    (he : starEach (e :: rest) env = (false, eval e env) :: starEach rest env := by rfl) (hplain : (backTo pos (starEach rest env)).any (·.1) = false := by rfl) :
    wpAny M A (callWith pos f first (backTo pos (starEach (e :: rest) env)) []) Q E s := callWith_K X hk h he hplain
end
section
variable {M : Model} {A : Around} {E : Value → Shared → Prop} {env : Env} {prog : Program} {w : World} {h : Heap} {g : Array GenState} {d : Drawn} {t : Nat} {o : OsState}
theorem intS {i : Int} {k : Nat} {pos : Pos} {Q : Value → Shared → Prop} (hq : Q (.int i t) ⟨h, g, d, t + 1, o⟩) : wpAny M A (eval (.Constant (.int i) k pos) env) Q E ⟨h, g, d, t, o⟩ := wpAny_Constant_int hq
theorem strS {x : Str} {k : Nat} {pos : Pos} {Q : Value → Shared → Prop} (hq : Q (.str x t) ⟨h, g, d, t + 1, o⟩) : wpAny M A (eval (.Constant (.str x) k pos) env) Q E ⟨h, g, d, t, o⟩ := PySem.Calls.Constant_str hq
theorem addS {a b : Int} {u v : Tok} {Q : Value → Shared → Prop} (hq : Q (.int (a + b) t) ⟨h, g, d, t + 1, o⟩) : wpAny (model prog w) A (binaryOp .Add (.int a u) (.int b v)) Q E ⟨h, g, d, t, o⟩ := add_int hq
theorem iaddS {a b : Int} {u v : Tok} {Q : Value → Shared → Prop} (hq : Q (.int (a + b) t) ⟨h, g, d, t + 1, o⟩) : wpAny (model prog w) A (inplaceOp .Add (.int a u) (.int b v)) Q E ⟨h, g, d, t, o⟩ := iadd_int hq
theorem negS {a : Int} {u : Tok} {Q : Value → Shared → Prop} (hq : Q (.int (-a) t) ⟨h, g, d, t + 1, o⟩) : wpAny (model prog w) A (unaryOp .USub (.int a u)) Q E ⟨h, g, d, t, o⟩ := neg_int hq
noncomputable abbrev upd (m : Str → Option Value) (x : Str) (v : Value) : Str → Option Value := fun y => if y = x then some v else m y
theorem storeS {h₀ : Heap} {L a : Addr} {m : Str → Option Value} {cn : Str} {cs : Scope} {ccd : Value} {cl : List (Str × Addr)} {x : Str} {v : Value} {Q : Unit → Shared → Prop} {news : List (Addr × Obj)}
    (F : Fr h₀ L h m) (N : News h₀ L h news) (hq : let m' := upd m x v; ∀ h' tk, Fr h₀ L h' m' → News h₀ L h' news → Q () ⟨h', g, d, tk, o⟩)
    (hk : cs.kind = .function := by rfl) (hx : (envX cn cs L a ccd cl).kindOf x = some .local := by rfl) : wpAny M A (storeName (envX cn cs L a ccd cl) x v) Q E ⟨h, g, d, t, o⟩ := storeX_L (s := ⟨h, g, d, t, o⟩) F N (fun h' F' N' => hq h' _ F' N') hk hx
end
theorem all_2 {α β : Type} {P : α × β → Prop} (h : ∀ a b, P (a, b)) : ∀ x, P x := fun (a, b) => h a b
theorem all_3 {α β γ : Type} {P : α × β × γ → Prop} (h : ∀ a b c, P (a, b, c)) : ∀ x, P x := fun (a, b, c) => h a b c
theorem all_4 {α β γ δ : Type} {P : α × β × γ × δ → Prop} (h : ∀ a b c d, P (a, b, c, d)) : ∀ x, P x := fun (a, b, c, d) => h a b c d
theorem all_5 {α β γ δ ε : Type} {P : α × β × γ × δ × ε → Prop} (h : ∀ a b c d e, P (a, b, c, d, e)) : ∀ x, P x := fun (a, b, c, d, e) => h a b c d e
theorem all_6 {α β γ δ ε ζ : Type} {P : α × β × γ × δ × ε × ζ → Prop} (h : ∀ a b c d e f, P (a, b, c, d, e, f)) : ∀ x, P x := fun (a, b, c, d, e, f) => h a b c d e f
theorem fm2 {α : Type} {P : α → Prop} {a b : α} (h1 : P a) (h2 : P b) : ∀ q ∈ [a, b], P q := by
  intro q hq
  simp only [List.mem_cons, List.not_mem_nil, or_false] at hq
  rcases hq with rfl | rfl <;> assumption
theorem fm3 {α : Type} {P : α → Prop} {a b c : α} (h1 : P a) (h2 : P b) (h3 : P c) : ∀ q ∈ [a, b, c], P q := by
  intro q hq
  simp only [List.mem_cons, List.not_mem_nil, or_false] at hq
  rcases hq with rfl | rfl | rfl <;> assumption
theorem fm4 {α : Type} {P : α → Prop} {a b c d : α} (h1 : P a) (h2 : P b) (h3 : P c) (h4 : P d) : ∀ q ∈ [a, b, c, d], P q := by
  intro q hq
  simp only [List.mem_cons, List.not_mem_nil, or_false] at hq
  rcases hq with rfl | rfl | rfl | rfl <;> assumption
theorem fm5 {α : Type} {P : α → Prop} {a b c d e : α} (h1 : P a) (h2 : P b) (h3 : P c) (h4 : P d) (h5 : P e) : ∀ q ∈ [a, b, c, d, e], P q := by
  intro q hq
  simp only [List.mem_cons, List.not_mem_nil, or_false] at hq
  rcases hq with rfl | rfl | rfl | rfl | rfl <;> assumption
theorem fm7 {α : Type} {P : α → Prop} {a b c d e f g : α} (h1 : P a) (h2 : P b) (h3 : P c) (h4 : P d) (h5 : P e) (h6 : P f) (h7 : P g) : ∀ q ∈ [a, b, c, d, e, f, g], P q := by
  intro q hq
  simp only [List.mem_cons, List.not_mem_nil, or_false] at hq
  rcases hq with rfl | rfl | rfl | rfl | rfl | rfl | rfl <;> assumption
theorem off_none {h : Heap} {b : Addr} {o : Obj} {l : List Addr} (e : h.get? b = some o) (hl : ∀ q ∈ l, h.get? q = none) : b ∉ l := fun hm => by rw [hl b hm] at e; cases e
theorem fmc {α : Type} {p : α → Prop} {a : α} {l : List α} (h1 : p a) (h2 : ∀ x ∈ l, p x) : ∀ x ∈ a :: l, p x := List.forall_mem_cons.mpr ⟨h1, h2⟩
end
section
section
variable {prog : Program} {w : World} {A A₀ : Around} {s : Shared} {K : Frag} {L : Addr} {h₀ base : Heap} {m mg mb : Str → Option Value} {p : Program} {loose : List Str} {mean : ExcName → Option Value}

theorem hideAll_nil (h : Heap) : hideAll h [] = h := by first | rfl | (unfold hideAll; rfl) | simp [hideAll]

/-- a call of a def of the text, nothing of the caller's heap hidden: all of it is the callee's ground -/
theorem enterP {env : Env} {outer : List Env} {R : Result → Shared → Prop} {name qual : Str} {params : Arguments} {body : List Stmt} {scope : Scope} {dV kV doc pm cdv ct oc : Value} {an od : Option Addr} {osl : Array (Option Value)} {f : Addr} {args : Args} {binds : List (Str × Value)}
    (B : Below A₀ base outer h₀) (F : Fr h₀ L s.heap m) (X₀ : K.In h₀) (T : Top p loose mean mg mb h₀) (hA : A.frames = some (env :: outer)) (hf : env.frame = some L) (hke : env.scope.kind = .function)
    (ho : K.lookup f = some ⟨oc, od, .func (fnOf name qual params body scope dV kV doc pm an cdv ct), osl⟩) (hcd : codeIn K cdv qual = true) (hroom : A.depth < recursionLimit)
    (hbind : BindsTo s (fnOf name qual params body scope dV kV doc pm an cdv ct) args binds) (hloc : ∀ y ∈ binds, scope.names.lookup y.1 = some .local)
    (h : ∀ L' h₁, Fr s.heap L' h₁ (fun y => binds.reverse.lookup y) → News s.heap L' h₁ [] → Below A base (env :: outer) s.heap → K.In s.heap → Top p loose mean mg mb s.heap →
      wpAny (model prog w) (A.deeper (envOf qual scope L' f cdv)) (execs body (envOf qual scope L' f cdv))
        (fun fl s' => R (.ok (.ret (match fl with | .ret v => v | _ => .none))) s')
        (fun e s' => wpAny (model prog w) (A.deeper (envOf qual scope L' f cdv)) (leaving (envOf qual scope L' f cdv) e) (fun _ s'' => R (.error e) s'') (fun e' s'' => R (.error e') s'') s')
        { s with heap := h₁, toks := s.toks + binds.length })
    (hco : scope.isCoroutine = false) (hgen : scope.isGenerator = false) (hk : scope.kind = .function)
    (hcell : ∀ x ∈ scope.names, x.2 ≠ .cell) : codeAny (model prog w) A (.call (.ref f) args) R s := by
  obtain ⟨FG, BG, st, lv⟩ := groundX (R := R) (news := []) B F News.nil hA hf hke
  simp only [List.map_nil, hideAll_nil] at FG BG st
  refine codeAny_call_def (fd := fnX name qual params body scope [] dV kV doc pm an cdv ct) (body := body) (binds := binds) hroom ((X₀.keeps F.keep) _ _ ho) rfl (T.nolimit.keeps F.keep) (codeRec_of (X₀.keeps F.keep) hcd) rfl hbind hcell hloc (fun h₁ hns hk₁ => ?_) hco hgen hk
  exact h s.heap.objs.size h₁ ⟨hns, hk₁, Nat.le_refl _⟩ News.nil BG (X₀.keeps st) (T.keeps st)

theorem enterC {env : Env} {outer : List Env} {R : Result → Shared → Prop} {name qual : Str} {params : Arguments} {body : List Stmt} {scope : Scope} {dV kV doc pm cdv ct oc : Value} {an od : Option Addr} {osl : Array (Option Value)} {f : Addr} {args : Args} {binds : List (Str × Value)}
    (B : Below A₀ base outer h₀) (F : Fr h₀ L s.heap m) (X₀ : K.In h₀) (T : Top p loose mean mg mb h₀) (hA : A.frames = some (env :: outer)) (hf : env.frame = some L) (hke : env.scope.kind = .function)
    (ho : K.lookup f = some ⟨oc, od, .func (fnOf name qual params body scope dV kV doc pm an cdv ct), osl⟩) (hcd : codeIn K cdv qual = true) (hroom : A.depth < recursionLimit)
    (hbind : BindsTo s (fnOf name qual params body scope dV kV doc pm an cdv ct) args binds) (hkind : (binds.all fun y => scope.names.lookup y.1 == some .local || scope.names.lookup y.1 == some .cell) = true)
    (hnd : ((cellsFrom 0 scope.names []).map (·.1)).Nodup)
    (h : ∀ L' h₁ tk cells, Fr s.heap L' h₁ (bindL (envOfC qual scope L' f cdv).kindOf binds fun _ => none) → News s.heap L' h₁ cells →
      CellsAre (bindC (envOfC qual scope L' f cdv).kindOf binds fun _ => none) (cellsFrom (L' + 1) scope.names []) cells → Below A base (env :: outer) s.heap → K.In s.heap → Top p loose mean mg mb s.heap →
      wpAny (model prog w) (A.deeper (envOfC qual scope L' f cdv)) (execs body (envOfC qual scope L' f cdv))
        (fun fl s' => R (.ok (.ret (match fl with | .ret v => v | _ => .none))) s')
        (fun e s' => wpAny (model prog w) (A.deeper (envOfC qual scope L' f cdv)) (leaving (envOfC qual scope L' f cdv) e) (fun _ s'' => R (.error e) s'') (fun e' s'' => R (.error e') s'') s')
        { s with heap := h₁, toks := tk })
    (hco : scope.isCoroutine = false) (hgen : scope.isGenerator = false) (hk : scope.kind = .function) : codeAny (model prog w) A (.call (.ref f) args) R s := by
  obtain ⟨FG, BG, st, lv⟩ := groundX (R := R) (news := []) B F News.nil hA hf hke
  simp only [List.map_nil, hideAll_nil] at FG BG st
  refine codeAny_call_function (fd := fnOf name qual params body scope dV kV doc pm an cdv ct) hroom ((X₀.keeps F.keep) _ _ ho) rfl hco hgen rfl (codeRec_of (X₀.keeps F.keep) hcd) (hbind _ _ _ _ ?_)
  refine wpAny_newFunctionEnv_cells hk (kindsX hkind _) fun env' he s' x => ?_
  subst he
  refine ⟨(T.nolimit.keeps F.keep).keeps x.toInCall.keep, codeAny_func ?_⟩
  obtain ⟨h₁, tk, rfl, _⟩ := x.done
  have hk₁ := x.toInCall.keep
  obtain ⟨cells, NC, Y⟩ := Cl.news (h₀ := s.heap) (Nat.le_refl _) fun n c hm => ⟨x.cell n c (lookup_of_mem_nodup (cellsFrom_names scope.names 0 (s.heap.objs.size + 1) [] [] rfl ▸ hnd) hm), x.above n c hm⟩
  exact h s.heap.objs.size h₁ tk cells ⟨x.toInCall.ns, hk₁, Nat.le_refl _⟩ (fun p hp => ⟨(NC p hp).1, (NC p hp).2.1, (NC p hp).2.2⟩) Y BG (X₀.keeps st) (T.keeps st)
end

section
variable {prog : Program} {w : World} {A : Around} {E : Value → Shared → Prop} {s : Shared} {h₀ : Heap} {L : Addr} {m : Str → Option Value} {env : Env}

/-- what is left of a comprehension once its source is evaluated -/
noncomputable def CompGoal (P : List (Addr × Obj) → Addr → List Value → Prop) : Prop := ∃ news ax vs, P news ax vs

/-- a test list of a comprehension -/
noncomputable abbrev Tests (prog : Program) (w : World) (A : Around) (ifs : List Expr) (cenv : Env) (Q : Bool → Shared → Prop) (E' : Value → Shared → Prop) (s₂ : Shared) : Prop :=
  wpAny (model prog w) A (forIn ifs true fun c r => if r = true then do let ok ← isTrue c cenv (eval c cenv); pure (ForInStep.yield ok) else pure (ForInStep.yield r)) Q E' s₂

inductive CompE (prog : Program) (w : World) (A : Around) (h₀ : Heap) (L : Addr) (m : Str → Option Value) (env : Env) (elt : Expr) (x : Str) (ifs : List Expr) (scope : Scope) (cl : List (Str × Addr)) (p : Value → Bool) (Fv : Value → Value → Prop) (Q : Value → Shared → Prop) (xv : Value) (s₁ : Shared) : Prop
  | mk (news : List (Addr × Obj)) (ax : Addr) (vs : List Value) (e : xv = .ref ax) (hl : s₁.heap.IsList ax vs.toArray) (hsz : vs.length ≤ sizeLine) (F : Fr h₀ L s₁.heap m) (N : News h₀ L s₁.heap news) (htests : (∀ C v s₂ m₂ E', s₁.heap.objs.size ≤ C → v ∈ vs → s₂.heap.Ns C m₂ → m₂ x = some v → Fr h₀ L s₂.heap m → News h₀ L s₂.heap news → (∀ b o, s₁.heap.get? b = some o → s₂.heap.get? b = some o) →
        Tests prog w A ifs (compEnvC scope cl C env) (fun ok s₃ => ok = p v ∧ Keeps s₂ s₃) E' s₂)) (helt : (∀ C v s₂ m₂ E', s₁.heap.objs.size ≤ C → v ∈ vs → p v = true → s₂.heap.Ns C m₂ → m₂ x = some v → Fr h₀ L s₂.heap m → News h₀ L s₂.heap news → (∀ b o, s₁.heap.get? b = some o → s₂.heap.get? b = some o) →
        wpAny (model prog w) A (eval elt (compEnvC scope cl C env)) (fun y s₃ => Fv v y ∧ Keeps s₂ s₃) E' s₂)) (hQ : (∀ D c (ys : List Value) h' tk, Fr h₀ L h' m → News h₀ L h' ((D, listOf ys.toArray c) :: news) → (∀ q ∈ news, q.1 ≠ D) → (∀ b o, s₁.heap.get? b = some o → h'.get? b = some o) → s₁.heap.get? D = none →
        Paired Fv (vs.filter p) ys → Q (.ref D) { s₁ with heap := h', toks := tk })) : CompE prog w A h₀ L m env elt x ifs scope cl p Fv Q xv s₁
theorem compE {elt iter : Expr} {x : Str} {px : Pos} {ifs : List Expr} {scope : Scope} {cl : List (Str × Addr)} {pos : Pos} {Q : Value → Shared → Prop} (p : Value → Bool) (Fv : Value → Value → Prop) (F₀ : Fr h₀ L s.heap m)
    (hh : A.handled = none) (hclos : closureFor scope env = pure cl) (hcell : ∀ y ∈ scope.names, y.2 ≠ .cell) (hkind : scope.kind = .function)
    (hnames : ∀ y ∈ scope.names, y.2 = .local → scope.names.lookup y.1 = some .local) (hx : scope.names.lookup x = some .local)
    (hs : ∀ x, foldedSetIterable iter env x = pure x)
    (h : wpAny (model prog w) A (eval iter env) (CompE prog w A h₀ L m env elt x ifs scope cl p Fv Q) E s) :
    wpAny (model prog w) A (eval (.ListComp elt [⟨.Name x px, iter, ifs, 0⟩] scope pos) env) Q E s := by
  refine wpAny_ListComp_free p Fv hclos hcell hkind hnames hx (wpAny_mono h (fun xv s₁ h₁ => ?_) fun _ _ e => e) hs
  obtain ⟨news, ax, vs, rfl, hl, hsz, F, N, htests, helt, hQ⟩ := h₁
  have hlt : ax < s₁.heap.objs.size := by obtain ⟨_, e, _⟩ := hl; exact Heap.lt_size e
  have up : ∀ (s₃ : Shared), (∀ b o, b ∉ [s₁.heap.objs.size] → (s₁.heap.push { cls := .type "list_iterator", data := .fields #[.ref ax, .int 0 0] }).get? b = some o → s₃.heap.get? b = some o) → ∀ b o, s₁.heap.get? b = some o → s₃.heap.get? b = some o :=
    fun s₃ hk b o e => hk b o (fun hm => by rcases List.mem_cons.mp hm with rfl | hm; exact Nat.lt_irrefl _ (Heap.lt_size e); cases hm) (Heap.get?_push_of_some _ e)
  refine wpAny_pyIter_list hl ⟨s₁.heap.objs.size, [s₁.heap.objs.size, ax], [s₁.heap.objs.size], vs.toArray.size, _, _, rfl, Walks.list hh _ _ (Nat.ne_of_lt hlt) vs.toArray, (by rw [List.size_toArray]; exact hsz), ⟨⟨_, Heap.get?_push_size _ rfl, rfl, rfl⟩, hl.push _⟩, ?_, ⟨?_, ?_⟩, ?_⟩
  · intro b hb
    show b < (s₁.heap.push _).objs.size
    rw [Heap.size_push]
    rcases List.mem_cons.mp hb with rfl | hb
    · exact Nat.lt_succ_self _
    · rcases List.mem_cons.mp hb with rfl | hb
      · exact Nat.lt_succ_of_lt hlt
      · cases hb
  · intro C i v s₃ m₃ E' hC hP hn hm hk _
    exact htests C v s₃ m₃ E' (Nat.le_of_succ_le (by simpa [Heap.size_push] using hC)) (by simpa using Array.mem_of_getElem? hP) hn hm (F.keeps (up s₃ hk)) (N.grown (up s₃ hk)) (up s₃ hk)
  · intro C i v s₃ m₃ E' hC hP hp hn hm hk _
    exact helt C v s₃ m₃ E' (Nat.le_of_succ_le (by simpa [Heap.size_push] using hC)) (by simpa using Array.mem_of_getElem? hP) hp hn hm (F.keeps (up s₃ hk)) (N.grown (up s₃ hk)) (up s₃ hk)
  · intro D h' tk ys vs' hnew hlD hplD hlen hP hF hk
    have e : vs' = vs := by simpa using list_of_places hlen hP
    subst e
    have keep : ∀ b o, s₁.heap.get? b = some o → h'.get? b = some o := up { s₁ with heap := h' } hk
    obtain ⟨c, hc⟩ := hplD
    have hD1 : s₁.heap.get? D = none := by
      cases e : s₁.heap.get? D with
      | none => rfl
      | some o' => rw [Heap.get?_push_of_some _ e] at hnew; cases hnew
    refine hQ D c ys.toList h' tk (F.keeps keep) ?_ (fun q hq e => by rw [← e, (N q hq).1] at hD1; cases hD1) keep hD1 hF
    intro q hq
    rcases List.mem_cons.mp hq with rfl | hq
    · refine ⟨by simpa using hc, fun e => ?_, ?_⟩
      · obtain ⟨oL, _, _, hL, _⟩ := F.ns
        simp only at e
        rw [e, hL] at hD1; cases hD1
      · cases e : h₀.get? D with
        | none => rfl
        | some o' => rw [F.keep _ _ e] at hD1; cases hD1
    · exact N.grown keep q hq

inductive CompA (prog : Program) (w : World) (A : Around) (h₀ : Heap) (L : Addr) (m : Str → Option Value) (env : Env) (elt : Expr) (x : Str) (ifs : List Expr) (scope : Scope) (cl : List (Str × Addr)) (p : Value → Bool) (Fv : Value → Value → Prop) (y : Str) (Q : Flow → Shared → Prop) (xv : Value) (s₁ : Shared) : Prop
  | mk (news : List (Addr × Obj)) (ax : Addr) (vs : List Value) (e : xv = .ref ax) (hl : s₁.heap.IsList ax vs.toArray) (hsz : vs.length ≤ sizeLine) (F : Fr h₀ L s₁.heap m) (N : News h₀ L s₁.heap news) (htests : (∀ C v s₂ m₂ E', s₁.heap.objs.size ≤ C → v ∈ vs → s₂.heap.Ns C m₂ → m₂ x = some v → Fr h₀ L s₂.heap m → News h₀ L s₂.heap news → (∀ b o, s₁.heap.get? b = some o → s₂.heap.get? b = some o) →
        Tests prog w A ifs (compEnvC scope cl C env) (fun ok s₃ => ok = p v ∧ Keeps s₂ s₃) E' s₂)) (helt : (∀ C v s₂ m₂ E', s₁.heap.objs.size ≤ C → v ∈ vs → p v = true → s₂.heap.Ns C m₂ → m₂ x = some v → Fr h₀ L s₂.heap m → News h₀ L s₂.heap news → (∀ b o, s₁.heap.get? b = some o → s₂.heap.get? b = some o) →
        wpAny (model prog w) A (eval elt (compEnvC scope cl C env)) (fun y s₃ => Fv v y ∧ Keeps s₂ s₃) E' s₂)) (hQ : (∀ D c (ys : List Value) h' tk, Fr h₀ L h' (fun z => if z = y then some (.ref D) else m z) → News h₀ L h' ((D, listOf ys.toArray c) :: news) → (∀ q ∈ news, q.1 ≠ D) → s₁.heap.get? D = none →
        Paired Fv (vs.filter p) ys → Q .next { s₁ with heap := h', toks := tk })) : CompA prog w A h₀ L m env elt x ifs scope cl p Fv y Q xv s₁
theorem compA {elt iter : Expr} {x y : Str} {px py : Pos} {ifs : List Expr} {scope : Scope} {cl : List (Str × Addr)} {pos spos : Pos} {Q : Flow → Shared → Prop} (p : Value → Bool) (Fv : Value → Value → Prop) (F₀ : Fr h₀ L s.heap m)
    (hsw : swapsWith (.ListComp elt [⟨.Name x px, iter, ifs, 0⟩] scope pos) (some (.Name y py)) spos.line env = pure true) (hL : env.locals = L)
    (hh : A.handled = none) (hclos : closureFor scope env = pure cl) (hcell : ∀ y ∈ scope.names, y.2 ≠ .cell) (hkind : scope.kind = .function)
    (hnames : ∀ y ∈ scope.names, y.2 = .local → scope.names.lookup y.1 = some .local) (hx : scope.names.lookup x = some .local)
    (hy : env.kindOf y = some .local) (hp : (env.scope.kind == .class || (env.scope.kind == .module && env.locals != env.globals)) = false)
    (hs : ∀ x, foldedSetIterable iter env x = pure x)
    (h : wpAny (model prog w) A (eval iter env) (CompA prog w A h₀ L m env elt x ifs scope cl p Fv y Q) E s) :
    wpAny (model prog w) A (exec (.Assign [.Name y py] (.ListComp elt [⟨.Name x px, iter, ifs, 0⟩] scope pos) spos) env) Q E s := by
  clear F₀
  subst hL
  refine wpAny_Assign_ListComp_free p Fv hsw hclos hcell hkind hnames hx hy hp (wpAny_mono h (fun xv s₁ h₁ => ?_) fun _ _ e => e) hs
  obtain ⟨news, ax, vs, rfl, hl, hsz, F, N, htests, helt, hQ⟩ := h₁
  have hlt : ax < s₁.heap.objs.size := by obtain ⟨_, e, _⟩ := hl; exact Heap.lt_size e
  have hLlt : env.locals < s₁.heap.objs.size := F.ns.lt
  have up : ∀ (s₃ : Shared), (∀ b o, b ∉ [s₁.heap.objs.size] → (s₁.heap.push { cls := .type "list_iterator", data := .fields #[.ref ax, .int 0 0] }).get? b = some o → s₃.heap.get? b = some o) → ∀ b o, s₁.heap.get? b = some o → s₃.heap.get? b = some o :=
    fun s₃ hk b o e => hk b o (fun hm => by rcases List.mem_cons.mp hm with rfl | hm; exact Nat.lt_irrefl _ (Heap.lt_size e); cases hm) (Heap.get?_push_of_some _ e)
  refine wpAny_pyIter_list hl ⟨s₁.heap.objs.size, [s₁.heap.objs.size, ax], [s₁.heap.objs.size], vs.toArray.size, _, _, m, rfl, Walks.list hh _ _ (Nat.ne_of_lt hlt) vs.toArray, (by rw [List.size_toArray]; exact hsz), ⟨⟨_, Heap.get?_push_size _ rfl, rfl, rfl⟩, hl.push _⟩, ?_, ?_, ?_, ⟨?_, ?_⟩, ?_⟩
  · intro b hb
    show b < (s₁.heap.push _).objs.size
    rw [Heap.size_push]
    rcases List.mem_cons.mp hb with rfl | hb
    · exact Nat.lt_succ_self _
    · rcases List.mem_cons.mp hb with rfl | hb
      · exact Nat.lt_succ_of_lt hlt
      · cases hb
  · intro hm
    rcases List.mem_cons.mp hm with e | hm
    · exact Nat.lt_irrefl _ (e ▸ hLlt)
    · cases hm
  · exact (F.push _).ns
  · intro C i v s₃ m₃ E' hC hP hn hm hk _
    exact htests C v s₃ m₃ E' (Nat.le_of_succ_le (by simpa [Heap.size_push] using hC)) (by simpa using Array.mem_of_getElem? hP) hn hm (F.keeps (up s₃ hk)) (N.grown (up s₃ hk)) (up s₃ hk)
  · intro C i v s₃ m₃ E' hC hP hp hn hm hk _
    exact helt C v s₃ m₃ E' (Nat.le_of_succ_le (by simpa [Heap.size_push] using hC)) (by simpa using Array.mem_of_getElem? hP) hp hn hm (F.keeps (up s₃ hk)) (N.grown (up s₃ hk)) (up s₃ hk)
  · intro D h' tk ys vs' hnew hlD hplD hlen hP hF hNs hk
    have e : vs' = vs := by simpa using list_of_places hlen hP
    subst e
    have keep : ∀ b o, b ≠ env.locals → s₁.heap.get? b = some o → h'.get? b = some o := fun b o hbL e => hk b o hbL (fun hm => by rcases List.mem_cons.mp hm with rfl | hm; exact Nat.lt_irrefl _ (Heap.lt_size e); cases hm) (Heap.get?_push_of_some _ e)
    obtain ⟨c, hc⟩ := hplD
    have hD1 : s₁.heap.get? D = none := by
      cases e : s₁.heap.get? D with
      | none => rfl
      | some o' => rw [Heap.get?_push_of_some _ e] at hnew; cases hnew
    have Fn : Fr h₀ env.locals h' (fun z => if z = y then some (.ref D) else m z) :=
      ⟨hNs, fun b o e => keep b o (Nat.ne_of_lt (Nat.lt_of_lt_of_le (Heap.lt_size e) F.above)) (F.keep b o e), F.above⟩
    refine hQ D c ys.toList h' tk Fn ?_ (fun q hq e => by rw [← e, (N q hq).1] at hD1; cases hD1) hD1 hF
    intro q hq
    rcases List.mem_cons.mp hq with rfl | hq
    · refine ⟨by simpa using hc, fun e => ?_, ?_⟩
      · obtain ⟨oL, _, _, hL, _⟩ := F.ns
        simp only at e
        rw [e, hL] at hD1; cases hD1
      · cases e : h₀.get? D with
        | none => rfl
        | some o' => rw [F.keep _ _ e] at hD1; cases hD1
    · exact ⟨keep _ _ (N q hq).2.1 (N q hq).1, (N q hq).2.1, (N q hq).2.2⟩
end

/-- a mark at which the walk stands still -/
noncomputable def StopHere (P : Prop) : Prop := P
theorem stopHere {P : Prop} (h : StopHere P) : P := h

section
variable {prog : Program} {w : World} {A : Around} {E : Value → Shared → Prop} {s : Shared} {a b : Addr} {xs ys : List Value} {ns ms : List Str} {Q : Value → Shared → Prop}
/-- texts of code points below 0x110000 -/
noncomputable def OkStrs (ns : List Str) : Prop := ∀ x ∈ ns, PyData.strOk x = true
theorem OkStrs.nil : OkStrs [] := fun _ h => by cases h
theorem OkStrs.cons {x : Str} {ns : List Str} (h : PyData.strOk x = true) (r : OkStrs ns) : OkStrs (x :: ns) := fun y hy => by
  rcases List.mem_cons.mp hy with rfl | hy
  · exact h
  · exact r y hy
theorem OkStrs.sub {ns ms : List Str} (h : OkStrs ns) (hs : ∀ x ∈ ms, x ∈ ns) : OkStrs ms := fun x hx => h x (hs x hx)
theorem OkStrs.filter {ns : List Str} (h : OkStrs ns) (q : Str → Bool) : OkStrs (ns.filter q) := h.sub fun _ hx => (List.mem_filter.mp hx).1
theorem canLay_strs : ∀ {ns : List Str}, OkStrs ns → PyData.canLayAll0 (ns.map PyData.str) = true
  | [], _ => rfl
  | x :: r, h => by
    have h1 := h x (.head _)
    have h2 := canLay_strs (ns := r) fun y hy => h y (.tail _ hy)
    simp [PyData.canLayAll0, PyData.canLay0, h1, h2]
theorem depth_strs : ∀ ns : List Str, PyData.depthAll (ns.map PyData.str) = 0
  | [] => rfl
  | _ :: r => by simp [PyData.depthAll, PyData.depth, depth_strs r]
theorem shaped_strs {ns : List Str} (h : OkStrs ns) : SeqAt.shaped (.list (ns.map PyData.str)) = true := by
  simp [SeqAt.shaped, PyData.canLay0, PyData.depth, canLay_strs h, depth_strs]
theorem same_strs : ∀ ns ms : List Str, PySem.Spec.sameAll (ns.map PyData.str) (ms.map PyData.str) = decide (ns = ms)
  | [], [] => by simp [PySem.Spec.sameAll]
  | [], _ :: _ => by simp [PySem.Spec.sameAll]
  | _ :: _, [] => by simp [PySem.Spec.sameAll]
  | a :: r, b :: t => by
    rw [List.map_cons, List.map_cons, PySem.Spec.sameAll, same_strs r t]
    simp only [PySem.Spec.same]
    by_cases h : a = b <;> by_cases h' : r = t <;> simp [h, h']
theorem strs_carried : ∀ {vs : List Value} {ns : List Str}, StrsAre vs ns → CarriedAll vs (ns.map PyData.str) := by
  intro vs ns h
  induction h with
  | nil => exact .nil
  | cons _ t r ih => exact .cons (.str _ t) ih
theorem eq_strs (ha : s.heap.IsList a xs.toArray) (hb : s.heap.IsList b ys.toArray) (hi : StrsAre xs ns) (hj : StrsAre ys ms) (on : OkStrs ns) (om : OkStrs ms) (hu : A.units + 64 < cLine) (h : Q (.bool (decide (ns = ms))) s) :
    wpAny (model prog w) A (compareOp .Eq (.ref a) (.ref b)) Q E s :=
  eq_dataH_same (reads_newData ha (strs_carried hi)) (reads_newData hb (strs_carried hj)) (shaped_strs on) (shaped_strs om) hu (SeqAt.noMix_of_shape (.list .str) rfl _ _ (list_map_has fun _ => rfl) (list_map_has fun _ => rfl)) (by simp only [PySem.Spec.same]; rw [same_strs]; exact h)
theorem ne_strs (ha : s.heap.IsList a xs.toArray) (hb : s.heap.IsList b ys.toArray) (hi : StrsAre xs ns) (hj : StrsAre ys ms) (on : OkStrs ns) (om : OkStrs ms) (hu : A.units + 64 < cLine) (h : Q (.bool (!decide (ns = ms))) s) :
    wpAny (model prog w) A (compareOp .NotEq (.ref a) (.ref b)) Q E s :=
  ne_dataH_same (reads_newData ha (strs_carried hi)) (reads_newData hb (strs_carried hj)) (shaped_strs on) (shaped_strs om) hu (SeqAt.noMix_of_shape (.list .str) rfl _ _ (list_map_has fun _ => rfl) (list_map_has fun _ => rfl)) (by simp only [PySem.Spec.same]; rw [same_strs]; exact h)
theorem mem_joined {c : Nat} {sep r : Str} : ∀ {rows : List Str}, r ∈ rows → c ∈ r.cps → c ∈ (Str.join sep rows).cps
  | [x], h, hc => by
    rcases List.mem_cons.mp h with rfl | h
    · exact hc
    · cases h
  | x :: y :: rest, h, hc => by
    show c ∈ ((x.cps ++ sep.cps) ++ (Str.join sep (y :: rest)).cps)
    rcases List.mem_cons.mp h with rfl | h
    · exact Array.mem_append.mpr (.inl (Array.mem_append.mpr (.inl hc)))
    · exact Array.mem_append.mpr (.inr (mem_joined h hc))
theorem split_ok {x y : Str} (h : PyData.strOk x = true) : OkStrs (Txt.split x y) := fun r hr => by
  unfold PyData.strOk at h ⊢
  rw [Array.all_eq_true'] at h ⊢
  intro c hc
  exact h c (by have := mem_joined (sep := y) hr hc; rwa [StrLaws.join_split] at this)
theorem pick_init (vs : List Value) : slicePick vs.toArray none (some (-1)) none = vs.dropLast.toArray := by
  rw [kms_pick_eq]
  show (List.take (vs.length - 1 - 0) (List.drop 0 vs)).toArray = _
  rw [List.drop_zero, Nat.sub_zero, List.dropLast_eq_take]
theorem pick_tail (vs : List Value) (n : Int) (hn : 0 ≤ n) : slicePick vs.toArray (some n) none none = (vs.drop n.toNat).toArray := by
  rw [kms_pick_eq]
  unfold kms_pick
  simp only [kms_lo, kms_hi, if_neg (show ¬ n < 0 by omega), kmk_drop_min]
  rw [List.take_of_length_le]
  simp only [List.length_drop]
  exact Nat.sub_le_sub_left (Nat.min_le_left _ _) _
theorem pick_head (vs : List Value) (n : Int) (hn : 0 ≤ n) : slicePick vs.toArray none (some n) none = (vs.take n.toNat).toArray := by
  rw [kms_pick_eq]
  unfold kms_pick
  simp only [kms_lo, kms_hi, if_neg (show ¬ n < 0 by omega), List.drop_zero, Nat.sub_zero, kmk_take_min]
theorem paired_eq : ∀ {xs ys : List Value}, Paired (fun v y => y = v) xs ys → ys = xs := by
  intro xs ys h
  induction h with
  | nil => rfl
  | cons h1 h2 ih => rw [h1, ih]
theorem strsAre_filter (p : Value → Bool) (q : Str → Bool) (h : ∀ x t, p (.str x t) = q x) : ∀ {vs : List Value} {xs : List Str}, StrsAre vs xs → StrsAre (vs.filter p) (xs.filter q) := by
  intro vs xs hv
  induction hv with
  | nil => exact .nil
  | cons x t r ih =>
    rw [List.filter_cons, List.filter_cons, h]
    split
    · exact .cons x t ih
    · exact ih
theorem strsAre_is {vs : List Value} {xs : List Str} (h : StrsAre vs xs) {v : Value} (hv : v ∈ vs) : ∃ x t, v = .str x t ∧ x ∈ xs := by
  induction h with
  | nil => cases hv
  | cons x t r ih =>
    rcases List.mem_cons.mp hv with e | hv
    · exact ⟨x, t, e, .head _⟩
    · obtain ⟨y, u, e, hy⟩ := ih hv
      exact ⟨y, u, e, .tail _ hy⟩
end

theorem toV {Q : Value → Shared → Prop} {a b : Value} {s : Shared} (e : a = b) (h : Q a s) : Q b s := e ▸ h

noncomputable def strOf : Value → Str
  | .str x _ => x
  | _ => Str.empty

/-- a mark: new lists are to be pushed by hand -/
noncomputable def MarkNew : Prop := True
end
section
section
variable {prog : Program} {w : World} {A : Around} {E : Value → Shared → Prop} {s : Shared} {env : Env} {h₀ : Heap} {Q : Flow → Shared → Prop} {σ : Type}

/-- a turn of a loop has come to its end: a new state stands -/
inductive TurnEnd (h₀ : Heap) (L : Addr) (Led : σ → List (Addr × Obj)) (ps : σ → List (Str × Value)) (touched : List Str) (m₀ : Str → Option Value) (Nxt : σ → Prop) (own : List (Addr × Obj)) (s₁ s₂ : Shared) : Prop
  | mk (h' : Heap) (tk : Nat) (m' : Str → Option Value) (c' : σ) (news' : List (Addr × Obj)) (e : s₂ = { s₁ with heap := h', toks := tk }) (fr : Fr h₀ L h' m') (nw : News h₀ L h' news') (ho : ∀ p ∈ own, p ∈ news') (hl : ∀ p ∈ Led c', p ∈ news') (hps : ∀ q ∈ ps c', m' q.1 = some q.2)
      (off : ∀ z, touched.contains z = false → m' z = m₀ z) (inv : Nxt c') : TurnEnd h₀ L Led ps touched m₀ Nxt own s₁ s₂

noncomputable def TurnPost (h₀ : Heap) (L : Addr) (Led : σ → List (Addr × Obj)) (ps : σ → List (Str × Value)) (touched : List Str) (m₀ : Str → Option Value) (Nxt : σ → Prop) (own : List (Addr × Obj)) (Q : Flow → Shared → Prop) (s₁ : Shared) : Flow → Shared → Prop
  | .ret v, s₂ => Q (.ret v) s₂
  | .brk, s₂ => Q .next s₂
  | _, s₂ => TurnEnd h₀ L Led ps touched m₀ Nxt own s₁ s₂

/-- the frame within a loop: what it touches is forgotten, but for what its state says -/
noncomputable def loopM (touched : List Str) (u m₀ : Str → Option Value) (ps : List (Str × Value)) : Str → Option Value := kstB (fun z => if touched.contains z then u z else m₀ z) ps

theorem loopM_eq {touched : List Str} {m₀ m₁ : Str → Option Value} {ps : List (Str × Value)} (h1 : ∀ q ∈ ps, m₁ q.1 = some q.2) (h2 : ∀ z, touched.contains z = false → m₁ z = m₀ z) : loopM touched m₁ m₀ ps = m₁ := by
  funext z
  refine kstB_eq h1 fun _ => ?_
  show (if touched.contains z = true then m₁ z else m₀ z) = m₁ z
  cases h3 : touched.contains z with
  | true => simp
  | false => simp only [Bool.false_eq_true, if_false]; exact (h2 z h3).symm

/-- no iterator is in the ledger -/
noncomputable def NoIter (l : List (Addr × Obj)) : Prop := ∀ p ∈ l, ∀ fs, p.2.data ≠ .fields fs

theorem led_off {L : Addr} {h : Heap} {l own : List (Addr × Obj)} {I : Addr} {o : Obj} {fs} (hit : NoIter l) (N : News h₀ L h l) (hI : h.get? I = some o) (hf : o.data = .fields fs) : ∀ p ∈ l, p.1 ∉ [I] := fun p hp hm => by
  have e := (N p hp).1
  rw [List.mem_singleton.mp hm, hI] at e
  exact hit p hp fs (by rw [← Option.some.inj e, hf])

/-- a turn of a while loop has come to its end -/
noncomputable def WTurnPost (h₀ : Heap) (L : Addr) (Led : σ → List (Addr × Obj)) (ps : σ → List (Str × Value)) (touched : List Str) (m₀ : Str → Option Value) (Nxt : σ → Prop) (rest : List (Addr × Obj)) (Q : Flow → Shared → Prop) (s₁ : Shared) : Flow → Shared → Prop := TurnPost h₀ L Led ps touched m₀ Nxt rest Q s₁

theorem whileInv {test : Expr} {body orelse : List Stmt} {pos : Pos} {rest : List (Addr × Obj)} {m₀ : Str → Option Value} (Led : σ → List (Addr × Obj)) (ps : σ → List (Str × Value)) (touched : List Str) (Inv : σ → Prop) (μ : σ → Nat) (c₀ : σ)
    (hE : PassesOwn (model prog w) A env E) (F : Fr h₀ env.locals s.heap m₀) (N : News h₀ env.locals s.heap (Led c₀ ++ rest)) (hps : ∀ q ∈ ps c₀, m₀ q.1 = some q.2) (hI : Inv c₀)
    (turn : ∀ c u h tk, Inv c → Fr h₀ env.locals h (loopM touched u m₀ (ps c)) → News h₀ env.locals h (Led c ++ rest) →
      wpAny (model prog w) A (isTrue test env (eval test env)) (fun b s₂ => WhlIf b (wpAny (model prog w) A (execs body env) (TurnPost h₀ env.locals Led ps touched m₀ (fun c' => Inv c' ∧ μ c' < μ c) rest Q { s with heap := h, toks := tk }) E s₂) (wpAny (model prog w) A (execs orelse env) Q E s₂)) E { s with heap := h, toks := tk }) :
    wpAny (model prog w) A (exec (.While test body orelse pos) env) Q E s := by
  have main : ∀ n c h tk m, μ c < n → Inv c → Fr h₀ env.locals h m → News h₀ env.locals h (Led c ++ rest) → (∀ q ∈ ps c, m q.1 = some q.2) → (∀ z, touched.contains z = false → m z = m₀ z) →
      WhlRest prog w A E env test body orelse Q n { s with heap := h, toks := tk } := by
    intro n
    induction n with
    | zero => intro c h tk m hμ; exact absurd hμ (Nat.not_lt_zero _)
    | succ n ih =>
      intro c h tk m hμ hI F N hps hoff
      refine whl_turn hE (wpAny_mono (turn c m h tk hI (by rw [loopM_eq hps hoff]; exact F) N) (fun b s₂ h₂ => ?_) fun _ _ e => e)
      unfold WhlIf at h₂ ⊢
      split
      · rename_i hb
        rw [if_pos hb] at h₂
        have fin : ∀ s₃, TurnEnd h₀ env.locals Led ps touched m₀ (fun c' => Inv c' ∧ μ c' < μ c) rest { s with heap := h, toks := tk } s₃ → WhlRest prog w A E env test body orelse Q n s₃ := by
          rintro s₃ ⟨h', tk', m', c', news', rfl, F', N', ho, hl', hps', hoff', hI', hlt⟩
          refine ih c' h' tk' m' (Nat.lt_of_lt_of_le (by assumption) (Nat.le_of_lt_succ (by assumption))) hI' F' (fun p hp => ?_) hps' hoff'
          rcases List.mem_append.mp hp with h | h
          · exact N' p (hl' p h)
          · exact N' p (ho p h)
        refine wpAny_mono h₂ (fun f s₃ p => ?_) fun _ _ e => e
        cases f with
        | next => exact fin _ p
        | cont => exact fin _ p
        | brk => exact p
        | ret v => exact p
      · rename_i hb
        rw [if_neg hb] at h₂
        exact h₂
  exact whl_start (μ c₀ + 1) (main _ c₀ s.heap s.toks m₀ (Nat.lt_succ_self _) hI F N hps fun _ _ => rfl)
end

theorem step_if {z a : Str} {v r rest : Option Value} {touched : List Str} (hz : touched.contains z = false) (ha : touched.contains a = true) (h : rest = r) : (if z = a then v else rest) = r := by
  rw [if_neg, h]
  rintro rfl
  rw [hz] at ha; cases ha
theorem loopM_off {z : Str} {touched : List Str} {u m₀ : Str → Option Value} {ps : List (Str × Value)} (hz : touched.contains z = false) (hn : ∀ q ∈ ps, touched.contains q.1 = true) : loopM touched u m₀ ps z = m₀ z := by
  unfold loopM
  induction ps with
  | nil => show (if touched.contains z = true then u z else m₀ z) = m₀ z; rw [hz]; rfl
  | cons r ps ih => exact step_if hz (hn r (.head _)) (ih fun q hq => hn q (.tail _ hq))
theorem NoIter.nil : NoIter [] := fun _ h => by cases h
theorem NoIter.listOf {D : Addr} {its : Array Value} {n : Nat} {l : List (Addr × Obj)} (h : NoIter l) : NoIter ((D, PySem.W.listOf its n) :: l) := fun p hp fs e => by
  rcases List.mem_cons.mp hp with rfl | hp
  · cases e
  · exact h p hp fs e
theorem NoIter.cell {D : Addr} {o : Obj} {v} {l : List (Addr × Obj)} (d : o.data = .cell v) (h : NoIter l) : NoIter ((D, o) :: l) := fun p hp fs e => by
  rcases List.mem_cons.mp hp with rfl | hp
  · rw [d] at e; cases e
  · exact h p hp fs e

theorem turnEnd {σ : Type} {h₀ : Heap} {L : Addr} {Led : σ → List (Addr × Obj)} {ps : σ → List (Str × Value)} {touched : List Str} {m₀ : Str → Option Value} {Nxt : σ → Prop} {own : List (Addr × Obj)} {s₁ : Shared} (c' : σ) {h' : Heap} {tk : Nat} {m' : Str → Option Value} {news' : List (Addr × Obj)}
    (fr : Fr h₀ L h' m') (nw : News h₀ L h' news') (own' : ∀ p ∈ own, p ∈ news') (led : ∀ p ∈ Led c', p ∈ news') (hps : ∀ q ∈ ps c', m' q.1 = some q.2) (off : ∀ z, touched.contains z = false → m' z = m₀ z) (inv : Nxt c') :
    TurnEnd h₀ L Led ps touched m₀ Nxt own s₁ { s₁ with heap := h', toks := tk } := ⟨h', tk, m', c', news', rfl, fr, nw, own', led, hps, off, inv⟩

theorem cond_off {z : Str} {touched : List Str} {a b : Option Value} (hz : touched.contains z = false) : (if touched.contains z = true then a else b) = b := by rw [hz]; rfl
theorem max_of {ss : List Int} {M : Int} (h1 : M ∈ ss) (h2 : ∀ a ∈ ss, a ≤ M) : (ss.max?).getD 0 = M := by
  rw [List.max?_eq_some_iff.mpr ⟨h1, fun b hb => h2 b hb⟩]; rfl

theorem ne_cell {h₀ h : Heap} {L a b : Addr} {news : List (Addr × Obj)} {its : Array Value} {n : Nat} {o : Obj} {v} (N : News h₀ L h news) (h1 : (a, PySem.W.listOf its n) ∈ news) (h2 : (b, o) ∈ news) (d : o.data = .cell v) : a ≠ b := fun e => by
  have e1 := (N _ h1).1
  have e2 := (N _ h2).1
  simp only at e1 e2
  rw [e, e2] at e1
  rw [Option.some.inj e1] at d
  cases d
end
section
section
variable {prog : Program} {w : World} {A : Around} {E : Value → Shared → Prop} {s : Shared} {env : Env} {h₀ : Heap} {Q : Flow → Shared → Prop} {σ : Type}

inductive ListT (prog : Program) (w : World) (A : Around) (E : Value → Shared → Prop) (env : Env) (h₀ : Heap) (Q : Flow → Shared → Prop) (target : Expr) (body orelse : List Stmt) (Led : σ → List (Addr × Obj)) (ps : σ → List (Str × Value)) (touched : List Str) (Inv : Nat → σ → Prop) (xv : Value) (s₁ : Shared) : Prop
  | mk (ax : Addr) (vs : List Value) (c₀ : σ) (rest : List (Addr × Obj)) (m₀ : Str → Option Value) (e : xv = .ref ax) (hl : s₁.heap.IsList ax vs.toArray) (hne : ax ≠ env.locals) (F : Fr h₀ env.locals s₁.heap m₀) (N : News h₀ env.locals s₁.heap (Led c₀ ++ rest)) (hit : ∀ i c, Inv i c → NoIter (Led c)) (hitr : NoIter rest)
      (hps : ∀ q ∈ ps c₀, m₀ q.1 = some q.2) (hI : Inv 0 c₀)
      (turn : ∀ i c v u h tk own, vs[i]? = some v → Inv i c → (∀ b ∈ (Led c).map (·.1), b ≠ ax → OwnOff own [b]) → Fr h₀ env.locals h (loopM touched u m₀ (ps c)) → News h₀ env.locals h (Led c ++ (rest ++ own)) →
        wpAny (model prog w) A (assign target env v) (fun _ s₂ => wpAny (model prog w) A (execs body env) (TurnPost h₀ env.locals Led ps touched m₀ (Inv (i + 1)) (rest ++ own) Q { s₁ with heap := h, toks := tk }) E s₂) E { s₁ with heap := h, toks := tk })
      (done : ∀ c u h tk, Inv vs.length c → Fr h₀ env.locals h (loopM touched u m₀ (ps c)) → News h₀ env.locals h (Led c ++ rest) → wpAny (model prog w) A (execs orelse env) Q E { s₁ with heap := h, toks := tk }) : ListT prog w A E env h₀ Q target body orelse Led ps touched Inv xv s₁
inductive RangeT (prog : Program) (w : World) (A : Around) (E : Value → Shared → Prop) (env : Env) (h₀ : Heap) (Q : Flow → Shared → Prop) (target : Expr) (body orelse : List Stmt) (Led : σ → List (Addr × Obj)) (ps : σ → List (Str × Value)) (touched : List Str) (Inv : Nat → σ → Prop) (xv : Value) (s₁ : Shared) : Prop
  | mk (r : Addr) (a₀ b₀ st : Int) (n : Nat) (t₀ u₀ v₀ : Tok) (c₀ : σ) (rest : List (Addr × Obj)) (m₀ : Str → Option Value) (e : xv = .ref r) (hr : IsRange s₁.heap r a₀ b₀ st t₀ u₀ v₀) (hsm : Builtin.Range.small a₀ b₀ st = true) (hn : Builtin.Range.rangeSize a₀ b₀ st = (n : Int)) (F : Fr h₀ env.locals s₁.heap m₀)
      (N : News h₀ env.locals s₁.heap (Led c₀ ++ rest)) (hit : ∀ i c, Inv i c → NoIter (Led c)) (hitr : NoIter rest) (hps : ∀ q ∈ ps c₀, m₀ q.1 = some q.2) (hI : Inv 0 c₀)
      (turn : ∀ i c t u h tk own, i < n → Inv i c → OwnOff own ((Led c).map (·.1)) → Fr h₀ env.locals h (loopM touched u m₀ (ps c)) → News h₀ env.locals h (Led c ++ (rest ++ own)) →
        wpAny (model prog w) A (assign target env (.int (a₀ + i * st) t)) (fun _ s₂ => wpAny (model prog w) A (execs body env) (TurnPost h₀ env.locals Led ps touched m₀ (Inv (i + 1)) (rest ++ own) Q { s₁ with heap := h, toks := tk }) E s₂) E { s₁ with heap := h, toks := tk })
      (done : ∀ c u h tk, Inv n c → Fr h₀ env.locals h (loopM touched u m₀ (ps c)) → News h₀ env.locals h (Led c ++ rest) → wpAny (model prog w) A (execs orelse env) Q E { s₁ with heap := h, toks := tk }) : RangeT prog w A E env h₀ Q target body orelse Led ps touched Inv xv s₁
/-- where a loop stands between its turns -/
inductive StandT (Itr : Nat → Heap → Prop) (n : Nat) (env : Env) (h₀ : Heap) (Led : σ → List (Addr × Obj)) (rest : List (Addr × Obj)) (ps : σ → List (Str × Value)) (touched : List Str) (m₀ : Str → Option Value) (Inv : Nat → σ → Prop) (s₁ : Shared) (k : Nat) (s' : Shared) : Prop
  | mk (h' : Heap) (tk : Nat) (m' : Str → Option Value) (c : σ) (i : Nat) (e : s' = { s₁ with heap := h', toks := tk }) (it : Itr i h') (F : Fr h₀ env.locals h' m') (N : News h₀ env.locals h' (Led c ++ rest)) (hps : ∀ q ∈ ps c, m' q.1 = some q.2) (off : ∀ z, touched.contains z = false → m' z = m₀ z) (inv : Inv i c) (hi : i ≤ n) (hk : k = n + 1 - i) : StandT Itr n env h₀ Led rest ps touched m₀ Inv s₁ k s'

/-- what is to be shown of a loop once its iterator stands -/
inductive LoopW (prog : Program) (w : World) (A : Around) (E : Value → Shared → Prop) (env : Env) (h₀ : Heap) (Q : Flow → Shared → Prop) (target : Expr) (body orelse : List Stmt) (Led : σ → List (Addr × Obj)) (ps : σ → List (Str × Value)) (touched : List Str) (Inv : Nat → σ → Prop) (it : Value) (s₁ : Shared) : Prop
  | mk (I : Addr) (fp wr : List Addr) (n : Nat) (P : Nat → Value → Prop) (St : Nat → Heap → Prop) (c₀ : σ) (rest : List (Addr × Obj)) (m₀ : Str → Option Value) (e : it = .ref I) (W : Walks prog w A I fp wr n P St) (hf : env.locals ∉ fp) (hw : ∀ b ∈ wr, h₀.get? b = none)
      (off : ∀ i c h, St i h → Inv i c → News h₀ env.locals h (Led c ++ rest) → ∀ p ∈ Led c ++ rest, p.1 ∉ wr) (st : St 0 s₁.heap) (F : Fr h₀ env.locals s₁.heap m₀) (N : News h₀ env.locals s₁.heap (Led c₀ ++ rest)) (hps : ∀ q ∈ ps c₀, m₀ q.1 = some q.2) (hI : Inv 0 c₀)
      (turn : ∀ i c v u h tk own, i < n → P i v → Inv i c → (∀ p ∈ own, p.1 ∈ fp) → (∀ p ∈ Led c ++ rest, p.1 ∉ wr) → Fr h₀ env.locals h (loopM touched u m₀ (ps c)) → News h₀ env.locals h (Led c ++ (rest ++ own)) →
        wpAny (model prog w) A (assign target env v) (fun _ s₂ => wpAny (model prog w) A (execs body env) (TurnPost h₀ env.locals Led ps touched m₀ (Inv (i + 1)) (rest ++ own) Q { s₁ with heap := h, toks := tk }) E s₂) E { s₁ with heap := h, toks := tk })
      (done : ∀ c u h tk, Inv n c → Fr h₀ env.locals h (loopM touched u m₀ (ps c)) → News h₀ env.locals h (Led c ++ rest) → wpAny (model prog w) A (execs orelse env) Q E { s₁ with heap := h, toks := tk }) : LoopW prog w A E env h₀ Q target body orelse Led ps touched Inv it s₁
theorem forW {target iter : Expr} {body orelse : List Stmt} {pos : Pos} (Led : σ → List (Addr × Obj)) (ps : σ → List (Str × Value)) (touched : List Str) (Inv : Nat → σ → Prop)
    (hs : ∀ x, foldedSetIterable iter env x = pure x) (hE : PassesOwn (model prog w) A env E) (ht : ∀ it v, letOwnedTupleGo target it v = pure ())
    (h : wpAny (model prog w) A (eval iter env) (fun xv s₁ => wpAny (model prog w) A (pyIter xv) (LoopW prog w A E env h₀ Q target body orelse Led ps touched Inv) E s₁) E s) :
    wpAny (model prog w) A (exec (.For target iter body orelse pos) env) Q E s := by
  refine wpAny_For (wpAny_mono h (fun xv s₁ h₁ => wpAny_mono h₁ (fun it s₂ h₂ => ?_) fun _ _ e => e) fun _ _ e => e) hs
  obtain ⟨I, fp, wr, n, P, St, c₀, rest, m₀, rfl, W, hLf, hwr, off, hst, F, N, hps, hI, turn, done⟩ := h₂
  refine codeAny_forLoop (StandT St n env h₀ Led rest ps touched m₀ Inv s₂) (fun k s' hk => ?_) (n + 1) ⟨_, s₂.toks, m₀, c₀, 0, rfl, hst, F, N, hps, fun _ _ => rfl, hI, Nat.zero_le _, rfl⟩ (ht _)
  obtain ⟨H, tk, m', c, i, rfl, hst', F', N', hps', hoff', hinv, hi, rfl⟩ := hk
  have hLed := off i c H hst' hinv N'
  have next : ∀ h₁ : Heap, (∀ b o, b ∉ wr → H.get? b = some o → h₁.get? b = some o) → Fr h₀ env.locals h₁ m' ∧ News h₀ env.locals h₁ (Led c ++ rest) := fun h₁ hk₁ =>
    ⟨⟨F'.ns.at' fun o e => hk₁ _ o (fun h => hLf (W.sub _ h)) e, fun b o e => hk₁ b o (fun hb => by rw [hwr b hb] at e; cases e) (F'.keep b o e), F'.above⟩, fun p hp => ⟨hk₁ _ _ (hLed p hp) (N' p hp).1, (N' p hp).2⟩⟩
  by_cases hlt' : i < n
  · refine W.item i _ _ _ hlt' hst' fun v h₁ tk₁ hv st₁ hk₁ => ?_
    obtain ⟨F₁, N₁⟩ := next h₁ hk₁
    have Nown : News h₀ env.locals h₁ (ownOf h₀ fp h₁) := news_ownOf hLf
    have N₂ : News h₀ env.locals h₁ (Led c ++ (rest ++ ownOf h₀ fp h₁)) := fun p hp => by
      rcases List.mem_append.mp hp with h | h
      · exact N₁ p (List.mem_append_left _ h)
      · rcases List.mem_append.mp h with h | h
        · exact N₁ p (List.mem_append_right _ h)
        · exact Nown p h
    refine wpAny_passesOwn hE (wpAny_mono (turn i c v m' h₁ tk₁ _ hlt' hv hinv ownOf_sub hLed ((loopM_eq hps' hoff').symm ▸ F₁) N₂) (fun _ s₄ h₄ => wpAny_passesOwn hE (wpAny_mono h₄ (fun f s₃ p => ?_) fun _ _ e => e)) fun _ _ e => e)
    have fin : TurnEnd h₀ env.locals Led ps touched m₀ (Inv (i + 1)) (rest ++ ownOf h₀ fp h₁) { s₂ with heap := h₁, toks := tk₁ } s₃ → ∃ k', k' < n + 1 - i ∧ StandT St n env h₀ Led rest ps touched m₀ Inv s₂ k' s₃ := by
      rintro ⟨h', tk', m₂, c', news', rfl, F₃, N₃, ho, hl', hps₃, hoff₃, hI₃⟩
      refine ⟨n + 1 - (i + 1), nb8 (by first | assumption | exact Nat.le_of_lt (by assumption)), h', tk', m₂, c', i + 1, rfl, W.frame _ _ _ st₁ (fun b hb o e => ?_), F₃, fun p hp => ?_, hps₃, hoff₃, hI₃, hlt', rfl⟩
      · cases hn : h₀.get? b with
        | some o₀ =>
          have e3 := F₁.keep b o₀ hn
          rw [e] at e3
          rw [Option.some.inj e3]
          exact F₃.keep b o₀ hn
        | none => exact (N₃ _ (ho _ (List.mem_append_right _ (mem_ownOf hb hn e)))).1
      rcases List.mem_append.mp hp with h | h
      · exact N₃ p (hl' p h)
      · exact N₃ p (ho p (List.mem_append_left _ h))
    cases f with
    | next => exact fin p
    | cont => exact fin p
    | brk => exact p
    | ret v => exact p
  · have hin : i = n := ar7 (by assumption) (by assumption)
    subst hin
    refine W.done _ _ _ hst' fun h₁ tk₁ hk₁ => ?_
    obtain ⟨F₁, N₁⟩ := next h₁ hk₁
    exact wpAny_passesOwn hE (done c m' h₁ tk₁ hinv ((loopM_eq hps' hoff').symm ▸ F₁) N₁)
theorem no_iter {l rest : List (Addr × Obj)} {L I : Addr} {h : Heap} {o : Obj} {fs} (h1 : NoIter l) (h2 : NoIter rest) (N : News h₀ L h (l ++ rest)) (hI : h.get? I = some o) (hf : o.data = .fields fs) : ∀ p ∈ l ++ rest, p.1 ∉ [I] :=
  led_off (own := []) (fun q hq => by rcases List.mem_append.mp hq with h | h; exact h1 q h; exact h2 q h) N hI hf
/-- a for loop over a list, its target anything that K can store into -/
theorem forT {target iter : Expr} {body orelse : List Stmt} {pos : Pos} (Led : σ → List (Addr × Obj)) (ps : σ → List (Str × Value)) (touched : List Str) (Inv : Nat → σ → Prop)
    (hh : A.handled = none) (hs : ∀ x, foldedSetIterable iter env x = pure x) (hE : PassesOwn (model prog w) A env E) (ht : ∀ it v, letOwnedTupleGo target it v = pure ())
    (h : wpAny (model prog w) A (eval iter env) (ListT prog w A E env h₀ Q target body orelse Led ps touched Inv) E s) :
    wpAny (model prog w) A (exec (.For target iter body orelse pos) env) Q E s := by
  refine forW (h₀ := h₀) Led ps touched Inv hs hE ht (wpAny_mono h (fun xv s₁ h₁ => ?_) fun _ _ e => e)
  obtain ⟨ax, vs, c₀, rest, m₀, rfl, hl, hne, F, N, hit, hitr, hps, hI, turn, done⟩ := h₁
  have hlt : @LT.lt Nat _ ax s₁.heap.objs.size := by obtain ⟨_, e, _⟩ := hl; exact Heap.lt_size e
  refine wpAny_pyIter_list hl ⟨_, _, _, vs.length, _, _, c₀, rest, m₀, rfl, Walks.list (prog := prog) (w := w) hh s₁.heap.objs.size ax (Nat.ne_of_lt hlt) vs.toArray, fun hm => ?_, fun b hb => ?_, fun i c h st hi N => ?_, ⟨⟨_, Heap.get?_push_size _ rfl, rfl, rfl⟩, hl.push _⟩, F.push _, fun p hp => ⟨Heap.get?_push_of_some _ (N p hp).1, (N p hp).2⟩, hps, hI, ?_, done⟩
  · rcases List.mem_cons.mp hm with e | hm
    · exact absurd F.ns.lt (e ▸ Nat.lt_irrefl _)
    · exact hne (List.mem_singleton.mp hm).symm
  · rw [List.mem_singleton.mp hb]; exact next_is_new F
  · obtain ⟨oI, eI, _, dI⟩ := st.1
    exact no_iter (hit i c hi) hitr N eI dI
  · intro i c v u h tk own _ hv hinv ho hO F N
    refine turn i c v u h tk own (by simpa using hv) hinv (fun b hb hne' p hp b' hb' e => ?_) F N
    rw [List.mem_singleton.mp hb'] at e
    obtain ⟨q, hq, hqb⟩ := List.mem_map.mp hb
    rcases List.mem_cons.mp (ho p hp) with h2 | h2
    · exact hO q (List.mem_append_left _ hq) (List.mem_singleton.mpr (by rw [hqb, ← e, h2]))
    · exact hne' (by rw [← e, List.mem_singleton.mp h2])
theorem forRT {target iter : Expr} {body orelse : List Stmt} {pos : Pos} (Led : σ → List (Addr × Obj)) (ps : σ → List (Str × Value)) (touched : List Str) (Inv : Nat → σ → Prop)
    (hh : A.handled = none) (hs : ∀ x, foldedSetIterable iter env x = pure x) (hE : PassesOwn (model prog w) A env E) (ht : ∀ it v, letOwnedTupleGo target it v = pure ())
    (h : wpAny (model prog w) A (eval iter env) (RangeT prog w A E env h₀ Q target body orelse Led ps touched Inv) E s) :
    wpAny (model prog w) A (exec (.For target iter body orelse pos) env) Q E s := by
  refine forW (h₀ := h₀) Led ps touched Inv hs hE ht (wpAny_mono h (fun xv s₁ h₁ => ?_) fun _ _ e => e)
  obtain ⟨r, a₀, b₀, st, n, t₀, u₀, v₀, c₀, rest, m₀, rfl, hr, hsmall, hn, F, N, hit, hitr, hps, hI, turn, done⟩ := h₁
  refine wpAny_pyIter_range hr hsmall ⟨_, _, _, n, _, _, c₀, rest, m₀, rfl, Walks.range hh s₁.heap.objs.size a₀ st n, fun hm => ?_, fun b hb => ?_, fun i c h st hi N => ?_, ?_, F.push _, fun p hp => ⟨Heap.get?_push_of_some _ (N p hp).1, (N p hp).2⟩, hps, hI, ?_, done⟩
  · exact absurd F.ns.lt ((List.mem_singleton.mp hm) ▸ Nat.lt_irrefl _)
  · rw [List.mem_singleton.mp hb]; exact next_is_new F
  · exact no_iter (hit i c hi) hitr N st rfl
  · show IsRangeIter _ _ _ _ _
    rw [hn]; simpa using Heap.get?_push_size _ rfl
  · rintro i c v u h tk own hlt ⟨t, rfl⟩ hinv ho hO F N
    refine turn i c t u h tk own hlt hinv (fun p hp b hb e => ?_) F N
    obtain ⟨q, hq, hqb⟩ := List.mem_map.mp hb
    exact hO q (List.mem_append_left _ hq) (by rw [hqb, ← e]; exact ho p hp)
end
end
section
/-- a text by its code points -/
noncomputable def mkS (l : List Nat) : Str := ⟨l.toArray⟩
theorem mkS_cps (x : Str) : mkS x.cps.toList = x := by delta mkS; simp
theorem mkS_len (l : List Nat) : (mkS l).length = l.length := by simp [mkS, Str.length]
theorem mkS_inj {a b : List Nat} (h : mkS a = mkS b) : a = b := by
  have : (mkS a).cps.toList = (mkS b).cps.toList := by rw [h]
  simpa [mkS] using this
theorem mkS_toList (l : List Nat) : (mkS l).cps.toList = l := by simp [mkS]
theorem mkS_app (a b : List Nat) : mkS a ++ mkS b = mkS (a ++ b) := by
  apply Str.ext'
  show (mkS a).cps ++ (mkS b).cps = (mkS (a ++ b)).cps
  simp [mkS]
theorem slice_ab {l : List Nat} {a b : Nat} (hab : a ≤ b) (hb : b ≤ l.length) : Txt.slice (mkS l) (some (a : Int)) (some (b : Int)) = mkS ((l.drop a).take (b - a)) := by
  have h := StrLaws.sliceText_nat (mkS l) (a := a) (b := b) hab (by rw [mkS_len]; exact hb)
  rw [mkS_toList] at h
  exact h
theorem slice_b {l : List Nat} {b : Nat} (hb : b ≤ l.length) : Txt.slice (mkS l) none (some (b : Int)) = mkS (l.take b) := by
  have e : Txt.slice (mkS l) none (some (b : Int)) = Txt.slice (mkS l) (some ((0 : Nat) : Int)) (some (b : Int)) := by delta Txt.slice; rw [StrLaws.sliceIdx_none_lo]; rfl
  rw [e, slice_ab (Nat.zero_le _) hb, List.drop_zero, Nat.sub_zero]
theorem slice_a {l : List Nat} {a : Nat} (ha : a ≤ l.length) : Txt.slice (mkS l) (some (a : Int)) none = mkS (l.drop a) := by
  have e : Txt.slice (mkS l) (some (a : Int)) none = Txt.slice (mkS l) (some (a : Int)) (some ((l.length : Nat) : Int)) := by delta Txt.slice; rw [StrLaws.sliceIdx_none_hi, mkS_len]
  rw [e, slice_ab ha (Nat.le_refl _), List.take_of_length_le (by rw [List.length_drop]; exact Nat.le_refl _)]
theorem idx_neg {lo : Option Int} {k n : Nat} (hk : k ≤ n) (h0 : 0 < k) : Builtin.Str.strSliceIndices lo (some (-(k : Int))) 1 n = Builtin.Str.strSliceIndices lo (some ((n - k : Nat) : Int)) 1 n := by
  have h1 : (-(k : Int)) < 0 := nb16 h0
  have h2 : ¬ (((n - k : Nat) : Int) < 0) := Int.not_lt.mpr (Int.natCast_nonneg _)
  have e : (-(k : Int)) + (n : Int) = ((n - k : Nat) : Int) := nb15 hk
  simp only [Builtin.Str.strSliceIndices, if_pos h1, if_neg h2, e]
theorem idx_neg_lo {hi : Option Int} {k n : Nat} (hk : k ≤ n) (h0 : 0 < k) : Builtin.Str.strSliceIndices (some (-(k : Int))) hi 1 n = Builtin.Str.strSliceIndices (some ((n - k : Nat) : Int)) hi 1 n := by
  have h1 : (-(k : Int)) < 0 := nb16 h0
  have h2 : ¬ (((n - k : Nat) : Int) < 0) := Int.not_lt.mpr (Int.natCast_nonneg _)
  have e : (-(k : Int)) + (n : Int) = ((n - k : Nat) : Int) := nb15 hk
  simp only [Builtin.Str.strSliceIndices, if_pos h1, if_neg h2, e]
theorem slice_a_neg {l : List Nat} {a k : Nat} (h : a + k ≤ l.length) (h0 : 0 < k) : Txt.slice (mkS l) (some (a : Int)) (some (-(k : Int))) = mkS ((l.drop a).take (l.length - k - a)) := by
  have e : Txt.slice (mkS l) (some (a : Int)) (some (-(k : Int))) = Txt.slice (mkS l) (some (a : Int)) (some ((l.length - k : Nat) : Int)) := by
    delta Txt.slice; rw [mkS_len, idx_neg (Nat.le_trans (Nat.le_add_left _ _) h) h0]
  rw [e, slice_ab (Nat.le_sub_of_add_le h) (Nat.sub_le _ _)]
theorem slice_neg {l : List Nat} {k : Nat} (h : k ≤ l.length) (h0 : 0 < k) : Txt.slice (mkS l) (some (-(k : Int))) none = mkS (l.drop (l.length - k)) := by
  have e : Txt.slice (mkS l) (some (-(k : Int))) none = Txt.slice (mkS l) (some ((l.length - k : Nat) : Int)) none := by
    delta Txt.slice; rw [mkS_len, idx_neg_lo h h0]
  rw [e, slice_a (Nat.sub_le _ _)]
theorem item_nat {l : List Nat} {i : Nat} (h : i < l.length) : Txt.item (mkS l) (i : Int) = mkS [l[i]] := by
  delta Txt.item Txt.charAt
  rw [StrLaws.seqIndex_nonneg (Int.natCast_nonneg _) (by rw [mkS_len]; exact Int.ofNat_lt.mpr h)]
  simp [mkS, h]
theorem item_neg {l : List Nat} {k : Nat} (h : k ≤ l.length) (h0 : 0 < k) : Txt.item (mkS l) (-(k : Int)) = mkS [l[l.length - k]'(Nat.sub_lt (Nat.lt_of_lt_of_le h0 h) h0)] := by
  delta Txt.item Txt.charAt
  rw [StrLaws.seqIndex_neg (nb16 h0) (by rw [mkS_len]; exact Int.neg_le_neg (Int.ofNat_le.mpr h)), mkS_len]
  have e : (-(k : Int) + (l.length : Int)).toNat = l.length - k := nb14
  rw [e]
  simp [mkS, show l.length - k < l.length from Nat.sub_lt (Nat.lt_of_lt_of_le h0 h) h0]
theorem strOk_mkS {l : List Nat} (h : ∀ c ∈ l, c < 0x110000) : PyData.strOk (mkS l) = true := by
  delta PyData.strOk mkS
  rw [Array.all_eq_true']
  intro c hc
  exact decide_eq_true (h c (by simpa using hc))
end
section
/-- what is to be shown of a new plain object -/
noncomputable def ObjEnd (s : Shared) (o : Obj) (Q : Value → Shared → Prop) : Prop := ∀ a h, (∀ b x, s.heap.get? b = some x → h.get? b = some x) → h.get? a = some o → s.heap.get? a = none → Q (.ref a) { s with heap := h }
theorem objNew_called : TypeCalled "object" "object.__new__" "object.__init__" :=
  ⟨by decide +kernel, by decide +kernel, ⟨_, _, PySem.F.mro_object⟩, madeBy_type PySem.F.mro_object (id := "object.__new__") (by rw [typeLookup_type, builtinLookup_eq_fast]; kernel_rfl) (by decide +kernel), by decide +kernel, by rw [isSubtype_type]; kernel_rfl,
    (Slot.of (T := "object") (name := "__init__") (owner := "object") (n := "__init__") (by rw [typeLookup_type, builtinLookup_eq_fast]; kernel_rfl) (by decide +kernel) (by decide +kernel) (by decide +kernel)
    (.inl (by decide +kernel)) (by rw [isSubtype_type]; kernel_rfl))⟩
theorem objectNew {w : World} {A : Around} {s : Shared} {Q : Value → Shared → Prop} {E : Value → Shared → Prop} (h : ObjEnd s { cls := .type "object" } Q) : wpAny (model PySem.Challenge.rw_ik0127_01.row.prog w) A (call (.type "object") []) Q E s := by
  refine callType_codes (T := "object") (Bi := Builtin.«object.__init__») (Q₁ := fun r s₁ => r = .ref s.heap.objs.size ∧ s₁ = { s with heap := s.heap.push { cls := .type "object" } }) objNew_called (by kernel_rfl) PySem.F.entry_object_init ?_ ?_
  · refine codeAny_call_builtin_at (plainId_quiet (by decide +kernel) _) PySem.F.entry_object_new (wpAny_of_eq (a := ()) (by kernel_rfl) ?_)
    refine run_ev (K := []) (fun _ _ h => nomatch h) (a := .done (.ret (.ref s.heap.objs.size))) (s' := { s with heap := s.heap.push { cls := .type "object" } }) ?_ (by kernel_rfl)
    exact ⟨rfl, rfl⟩
  · rintro _ _ ⟨rfl, rfl⟩
    refine ⟨⟨_, Heap.get?_push_size _ rfl, rfl⟩, by kernel_rfl, ?_⟩
    refine run_ev (K := []) (fun _ _ h => nomatch h) (a := .done (.ret .none)) (s' := { s with heap := s.heap.push { cls := .type "object" } }) ?_ (by kernel_rfl)
    exact ⟨rfl, h _ _ (fun b o e => Heap.get?_push_of_some _ e) (Heap.get?_push_size _ rfl) (Heap.get?_none_of_le (Nat.le_refl _))⟩
theorem objectNewK {w : World} {A : Around} {s : Shared} {Q : Value → Shared → Prop} {E : Value → Shared → Prop} {h₀ : Heap} {L : Addr} {m : Str → Option Value} {news : List (Addr × Obj)} (F : Fr h₀ L s.heap m) (N : News h₀ L s.heap news)
    (k : ∀ a h', Fr h₀ L h' m → News h₀ L h' ((a, { cls := .type "object" }) :: news) → (∀ p ∈ news, p.1 ≠ a) → Q (.ref a) { s with heap := h' }) : wpAny (model PySem.Challenge.rw_ik0127_01.row.prog w) A (call (.type "object") []) Q E s := by
  refine objectNew fun a h hk ha hn => k a h (F.keeps hk) (fun p hp => ?_) fun p hp e => by rw [← e, (N p hp).1] at hn; cases hn
  rcases List.mem_cons.mp hp with rfl | hp
  · refine ⟨ha, fun e => ?_, ?_⟩
    · obtain ⟨oL, _, _, hL, _⟩ := F.ns
      simp only at e
      rw [e, hL] at hn; cases hn
    · cases e : h₀.get? a with
      | none => rfl
      | some o' => rw [F.keep _ _ e] at hn; cases hn
  · exact N.grown hk p hp
end
section
/-- the foldings of _law_foldings, as lists of code points -/
noncomputable def foldL : List (List Nat) → List (List Nat)
  | [] => []
  | w :: ws => ws.foldl (fun fs x => fs.flatMap fun f => [f ++ 10 :: 32 :: x, f ++ 32 :: x]) [w]

/-- two texts part at a place, the first one below -/
noncomputable def Parts (a b : List Nat) : Prop := ∃ p x y s t, a = p ++ x :: s ∧ b = p ++ y :: t ∧ x < y
theorem Parts.app {a b : List Nat} (h : Parts a b) (u v : List Nat) : Parts (a ++ u) (b ++ v) := by
  obtain ⟨p, x, y, s, t, rfl, rfl, hxy⟩ := h
  exact ⟨p, x, y, s ++ u, t ++ v, by simp, by simp, hxy⟩
theorem Parts.pre {a b : List Nat} (h : Parts a b) (u : List Nat) : Parts (u ++ a) (u ++ b) := by
  obtain ⟨p, x, y, s, t, rfl, rfl, hxy⟩ := h
  exact ⟨u ++ p, x, y, s, t, by simp, by simp, hxy⟩
theorem Parts.lt {a b : List Nat} (h : Parts a b) : a < b := by
  obtain ⟨p, x, y, s, t, rfl, rfl, hxy⟩ := h
  induction p with
  | nil => exact List.Lex.rel hxy
  | cons c p ih => exact List.Lex.cons ih
theorem fold_step_pairwise (x : List Nat) : ∀ {fs : List (List Nat)}, fs.Pairwise Parts → (fs.flatMap fun f => [f ++ 10 :: 32 :: x, f ++ 32 :: x]).Pairwise Parts := by
  intro fs h
  rw [List.pairwise_flatMap]
  refine ⟨fun f _ => ?_, h.imp fun {a b} hab u hu v hv => ?_⟩
  · refine List.Pairwise.cons (fun b hb => ?_) (List.pairwise_singleton _ _)
    rw [List.mem_singleton.mp hb]
    exact ⟨f, 10, 32, 32 :: x, x, rfl, rfl, by decide⟩
  · rcases List.mem_cons.mp hu with rfl | hu
    · rcases List.mem_cons.mp hv with rfl | hv
      · exact hab.app _ _
      · rw [List.mem_singleton.mp hv]; exact hab.app _ _
    · rw [List.mem_singleton.mp hu]
      rcases List.mem_cons.mp hv with rfl | hv
      · exact hab.app _ _
      · rw [List.mem_singleton.mp hv]; exact hab.app _ _
/-- the foldings stand in rising order -/
theorem foldL_pairwise : ∀ ws : List (List Nat), (foldL ws).Pairwise Parts
  | [] => List.Pairwise.nil
  | w :: ws => by
    unfold foldL
    have key : ∀ (l fs : List (List Nat)), fs.Pairwise Parts → (l.foldl (fun fs x => fs.flatMap fun f => [f ++ 10 :: 32 :: x, f ++ 32 :: x]) fs).Pairwise Parts := by
      intro l
      induction l with
      | nil => intro fs h; exact h
      | cons x l ih => intro fs h; exact ih _ (fold_step_pairwise x h)
    exact key ws [w] (List.pairwise_singleton _ _)

/-- a folding is a text of groups of words -/
noncomputable def blankJoin : List (List Nat) → List Nat
  | [] => []
  | [w] => w
  | w :: r => w ++ 32 :: blankJoin r
/-- the rows behind the first one -/
noncomputable def tailText : List (List (List Nat)) → List Nat
  | [] => []
  | g :: r => 10 :: 32 :: (blankJoin g ++ tailText r)
noncomputable def splitText : List (List (List Nat)) → List Nat
  | [] => []
  | g :: r => blankJoin g ++ tailText r
/-- s is a way to group the words -/
noncomputable def Groups (s : List (List (List Nat))) (ws : List (List Nat)) : Prop := s.flatten = ws ∧ ∀ g ∈ s, g ≠ []

theorem blankJoin_snoc : ∀ (g : List (List Nat)) (x : List Nat), g ≠ [] → blankJoin (g ++ [x]) = blankJoin g ++ 32 :: x
  | [], _, h => absurd rfl h
  | [w], x, _ => rfl
  | w :: v :: r, x, _ => by
    show w ++ 32 :: blankJoin ((v :: r) ++ [x]) = _
    rw [blankJoin_snoc (v :: r) x (List.cons_ne_nil _ _)]
    simp [blankJoin]
theorem tailText_snoc : ∀ (s : List (List (List Nat))) (g : List (List Nat)), tailText (s ++ [g]) = tailText s ++ 10 :: 32 :: blankJoin g
  | [], g => by simp [tailText]
  | h :: s, g => by simp [tailText, tailText_snoc s g]
theorem splitText_new (s : List (List (List Nat))) (g : List (List Nat)) (h : s ≠ []) : splitText (s ++ [g]) = splitText s ++ 10 :: 32 :: blankJoin g := by
  cases s with
  | nil => exact absurd rfl h
  | cons a s => simp [splitText, tailText_snoc]
theorem splitText_grow (s : List (List (List Nat))) (g : List (List Nat)) (x : List Nat) (hg : g ≠ []) : splitText (s ++ [g ++ [x]]) = splitText (s ++ [g]) ++ 32 :: x := by
  cases s with
  | nil => simp [splitText, tailText, blankJoin_snoc g x hg]
  | cons a s => simp [splitText, tailText_snoc, blankJoin_snoc g x hg]

/-- the foldings are the texts of the groupings -/
theorem mem_foldL {f : List Nat} : ∀ {ws : List (List Nat)}, ws ≠ [] → (f ∈ foldL ws ↔ ∃ s, Groups s ws ∧ f = splitText s) := by
  intro ws hws
  cases ws with
  | nil => exact absurd rfl hws
  | cons w ws =>
    unfold foldL
    have key : ∀ (l pre : List (List Nat)) (fs : List (List Nat)), pre ≠ [] → (∀ f, f ∈ fs ↔ ∃ s, Groups s pre ∧ f = splitText s) →
        ∀ f, f ∈ l.foldl (fun fs x => fs.flatMap fun f => [f ++ 10 :: 32 :: x, f ++ 32 :: x]) fs ↔ ∃ s, Groups s (pre ++ l) ∧ f = splitText s := by
      intro l
      induction l with
      | nil => intro pre fs _ h f; rw [List.append_nil]; exact h f
      | cons x l ih =>
        intro pre fs hp h f
        have e : pre ++ x :: l = (pre ++ [x]) ++ l := by simp
        rw [e]
        refine ih (pre ++ [x]) _ (by simp) (fun f => ?_) f
        rw [List.mem_flatMap]
        constructor
        · rintro ⟨f0, hf0, hf⟩
          obtain ⟨s, ⟨hs1, hs2⟩, rfl⟩ := (h f0).mp hf0
          have hsn : s ≠ [] := by rintro rfl; exact hp hs1.symm
          rcases List.mem_cons.mp hf with rfl | hf
          · refine ⟨s ++ [[x]], ⟨by simp [hs1], fun g hg => ?_⟩, (splitText_new s [x] hsn).symm⟩
            rcases List.mem_append.mp hg with hg | hg
            · exact hs2 g hg
            · rw [List.mem_singleton.mp hg]; exact List.cons_ne_nil _ _
          · rw [List.mem_singleton.mp hf]
            obtain ⟨s0, g0, rfl⟩ : ∃ s0 g0, s = s0 ++ [g0] := ⟨s.dropLast, s.getLast hsn, (List.dropLast_concat_getLast hsn).symm⟩
            have hg0 := hs2 g0 (by simp)
            refine ⟨s0 ++ [g0 ++ [x]], ⟨by rw [← hs1]; simp, fun g hg => ?_⟩, (splitText_grow s0 g0 x hg0).symm⟩
            rcases List.mem_append.mp hg with hg | hg
            · exact hs2 g (by simp [hg])
            · rw [List.mem_singleton.mp hg]; simp
        · rintro ⟨s, ⟨hs1, hs2⟩, rfl⟩
          have hsn : s ≠ [] := by rintro rfl; simp at hs1
          obtain ⟨s0, g0, rfl⟩ : ∃ s0 g0, s = s0 ++ [g0] := ⟨s.dropLast, s.getLast hsn, (List.dropLast_concat_getLast hsn).symm⟩
          have hg0 := hs2 g0 (by simp)
          obtain ⟨g1, y, rfl⟩ : ∃ g1 y, g0 = g1 ++ [y] := ⟨g0.dropLast, g0.getLast hg0, (List.dropLast_concat_getLast hg0).symm⟩
          have e2 : (s0.flatten ++ g1) ++ [y] = pre ++ [x] := by rw [← hs1]; simp
          have e3 := List.append_inj' e2 rfl
          obtain rfl : y = x := by simpa using e3.2
          cases g1 with
          | nil =>
            have hs0 : s0 ≠ [] := by
              rintro rfl
              have := e3.1
              simp at this
              exact hp this
            refine ⟨splitText s0, (h _).mpr ⟨s0, ⟨by simpa using e3.1, fun g hg => hs2 g (by simp [hg])⟩, rfl⟩, ?_⟩
            rw [List.nil_append, splitText_new s0 [y] hs0]
            exact .head _
          | cons v r =>
            refine ⟨splitText (s0 ++ [v :: r]), (h _).mpr ⟨s0 ++ [v :: r], ⟨by simpa using e3.1, fun g hg => ?_⟩, rfl⟩, ?_⟩
            · rcases List.mem_append.mp hg with hg | hg
              · exact hs2 g (by simp [hg])
              · rw [List.mem_singleton.mp hg]; exact List.cons_ne_nil _ _
            · rw [splitText_grow s0 (v :: r) y (List.cons_ne_nil _ _)]
              exact .tail _ (.head _)
    have := key ws [w] [w] (List.cons_ne_nil _ _) (fun f => ?_) f
    · exact this
    · constructor
      · intro hf
        rw [List.mem_singleton.mp hf]
        exact ⟨[[w]], ⟨rfl, fun g hg => by rw [List.mem_singleton.mp hg]; exact List.cons_ne_nil _ _⟩, by simp [splitText, blankJoin, tailText]⟩
      · rintro ⟨s, ⟨hs1, hs2⟩, rfl⟩
        cases s with
        | nil => simp at hs1
        | cons g s =>
          have hg := hs2 g (.head _)
          cases g with
          | nil => exact absurd rfl hg
          | cons v r =>
            simp at hs1
            obtain ⟨rfl, rfl, hs⟩ := hs1
            have : s = [] := by
              cases s with
              | nil => rfl
              | cons g' s' =>
                have h1 := hs2 g' (by simp)
                have h2 := hs g' (by simp)
                exact absurd h2 h1
            subst this
            simp [splitText, blankJoin, tailText]
end
section
noncomputable def endsS (sg : Nat) (w : List Nat) : Bool := w.getLast? == some sg
/-- the last place to cut behind, at most n -/
noncomputable def cutI (sg : Nat) (ws : List (List Nat)) : Nat → Option Nat
  | 0 => none
  | n + 1 => if endsS sg (ws.getD n []) then some (n + 1) else cutI sg ws n
theorem cutI_some {sg : Nat} {ws : List (List Nat)} : ∀ {n i : Nat}, cutI sg ws n = some i → 1 ≤ i ∧ i ≤ n ∧ endsS sg (ws.getD (i - 1) []) = true ∧ ∀ j, i ≤ j → j < n → endsS sg (ws.getD j []) = false
  | 0, i, h => by cases h
  | n + 1, i, h => by
    unfold cutI at h
    split at h
    · rename_i hc
      obtain rfl := Option.some.inj h
      exact ⟨by lia, Nat.le_refl _, by simpa using hc, fun j h1 h2 => by lia⟩
    · rename_i hc
      obtain ⟨a, b, c, d⟩ := cutI_some h
      refine ⟨a, by lia, c, fun j h1 h2 => ?_⟩
      by_cases hj : j < n
      · exact d j h1 hj
      · have : j = n := by lia
        subst this
        simpa using hc
theorem cutI_none {sg : Nat} {ws : List (List Nat)} : ∀ {n : Nat}, cutI sg ws n = none → ∀ j, j < n → endsS sg (ws.getD j []) = false
  | 0, _, j, h => by lia
  | n + 1, h, j, hj => by
    unfold cutI at h
    split at h
    · cases h
    · rename_i hc
      by_cases hj' : j < n
      · exact cutI_none h j hj'
      · have : j = n := by lia
        subst this
        simpa using hc

/-- the groups that the writer makes -/
noncomputable def wr (sg W : Nat) : Nat → List (List Nat) → List (List Nat) → List (List (List Nat))
  | _, cur, [] => [cur]
  | lead, cur, w :: rest =>
    if lead + (blankJoin (cur ++ [w])).length ≤ W then wr sg W lead (cur ++ [w]) rest
    else match cutI sg (cur ++ [w]) cur.length with
      | none => wr sg W lead (cur ++ [w]) rest
      | some i => (cur ++ [w]).take i :: wr sg W 1 ((cur ++ [w]).drop i) rest

/-- the rows fit -/
noncomputable def FitG (sg W : Nat) : Nat → List (List (List Nat)) → Prop
  | _, [] => True
  | lead, [g] => lead + (blankJoin g).length ≤ W
  | lead, g :: h :: r => lead + (blankJoin g).length ≤ W ∧ endsS sg (g.getLastD []) = true ∧ FitG sg W 1 (h :: r)

/-- no stretch from one sign to the next is wider than W -/
noncomputable def SegOK (sg W : Nat) (ws : List (List Nat)) : Prop :=
  ∀ a b c, ws = a ++ b ++ c → b ≠ [] → (a = [] ∨ endsS sg (a.getLastD []) = true) → (∀ x ∈ b.dropLast, endsS sg x = false) → (if a = [] then 0 else 1) + (blankJoin b).length ≤ W

theorem blankJoin_app : ∀ (g k : List (List Nat)), g ≠ [] → k ≠ [] → blankJoin (g ++ k) = blankJoin g ++ 32 :: blankJoin k
  | [], _, h, _ => absurd rfl h
  | [w], k, _, hk => by
    cases k with
    | nil => exact absurd rfl hk
    | cons v r => rfl
  | w :: v :: r, k, _, hk => by
    show w ++ 32 :: blankJoin ((v :: r) ++ k) = _
    rw [blankJoin_app (v :: r) k (List.cons_ne_nil _ _) hk]
    simp [blankJoin]
theorem tailText_ne {r : List (List (List Nat))} (h : r ≠ []) : tailText r = 10 :: 32 :: splitText r := by
  cases r with
  | nil => exact absurd rfl h
  | cons g r => rfl
theorem fitG_first {sg W lead : Nat} {g : List (List Nat)} {r : List (List (List Nat))} (h : FitG sg W lead (g :: r)) : lead + (blankJoin g).length ≤ W := by
  cases r with
  | nil => exact h
  | cons k r => exact h.1
/-- a folding with an earlier break stands below -/
theorem earlier {g m : List (List Nat)} {r r2 : List (List (List Nat))} (hg : g ≠ []) (hm : m ≠ []) (hr : r ≠ []) : Parts (splitText (g :: r)) (splitText ((g ++ m) :: r2)) := by
  rw [splitText, splitText, tailText_ne hr, blankJoin_app g m hg hm]
  exact ⟨blankJoin g, 10, 32, 32 :: splitText r, blankJoin m ++ tailText r2, rfl, by simp, by decide⟩
theorem groups_cons {g : List (List Nat)} {r : List (List (List Nat))} {ws : List (List Nat)} (h : Groups (g :: r) ws) : g ≠ [] ∧ ws = g ++ r.flatten ∧ Groups r r.flatten :=
  ⟨h.2 g (.head _), h.1.symm, rfl, fun k hk => h.2 k (.tail _ hk)⟩
theorem groups_nil {r : List (List (List Nat))} (h : Groups r []) : r = [] := by
  cases r with
  | nil => rfl
  | cons g r =>
    obtain ⟨h1, h2, _⟩ := groups_cons h
    cases g with
    | nil => exact absurd rfl h1
    | cons a g => cases h2

theorem greedy {sg W : Nat} : ∀ (rest done cur : List (List Nat)) (lead : Nat), cur ≠ [] → SegOK sg W (done ++ cur ++ rest) → ((done = [] ∧ lead = 0) ∨ (done ≠ [] ∧ endsS sg (done.getLastD []) = true ∧ lead = 1)) →
    lead + (blankJoin cur).length ≤ W →
    Groups (wr sg W lead cur rest) (cur ++ rest) ∧ FitG sg W lead (wr sg W lead cur rest) ∧ ∀ s', Groups s' (cur ++ rest) → FitG sg W lead s' → s' = wr sg W lead cur rest ∨ Parts (splitText s') (splitText (wr sg W lead cur rest)) := by
  intro rest
  induction rest with
  | nil =>
    intro done cur lead hc hseg hl hlen
    refine ⟨⟨by simp [wr], fun g hg => by simp only [wr, List.mem_singleton] at hg; rw [hg]; exact hc⟩, hlen, fun s' hs' hf => ?_⟩
    rw [List.append_nil] at hs'
    cases s' with
    | nil => exact absurd hs'.1.symm hc
    | cons g r =>
      obtain ⟨h1, h2, h3⟩ := groups_cons hs'
      by_cases hr : r = []
      · subst hr
        left
        simp only [wr]
        rw [h2]; simp
      · right
        have hm : r.flatten ≠ [] := fun e => hr (groups_nil (e ▸ h3))
        simp only [wr]
        rw [h2]
        exact earlier h1 hm hr
  | cons w rest ih =>
    intro done cur lead hc hseg hl hlen
    have e1 : done ++ cur ++ w :: rest = done ++ (cur ++ [w]) ++ rest := by simp
    have e2 : cur ++ w :: rest = (cur ++ [w]) ++ rest := by simp
    by_cases hfit : lead + (blankJoin (cur ++ [w])).length ≤ W
    · have hw : wr sg W lead cur (w :: rest) = wr sg W lead (cur ++ [w]) rest := by simp only [wr]; rw [if_pos hfit]
      rw [hw, e2]
      exact ih done (cur ++ [w]) lead (by simp) (e1 ▸ hseg) hl hfit
    · cases hcut : cutI sg (cur ++ [w]) cur.length with
      | none =>
        exfalso
        refine hfit ?_
        have hno := cutI_none hcut
        have h1 := hseg done (cur ++ [w]) rest e1 (by simp) (by rcases hl with h | h; exact .inl h.1; exact .inr h.2.1) (fun x hx => ?_)
        · rcases hl with ⟨h, rfl⟩ | ⟨h, _, rfl⟩
          · rw [if_pos h] at h1; exact h1
          · rw [if_neg h] at h1; exact h1
        · rw [List.dropLast_concat] at hx
          obtain ⟨j, hj, rfl⟩ := List.mem_iff_getElem.mp hx
          have := hno j hj
          rw [List.getD_eq_getElem?_getD, List.getElem?_append_left hj, List.getElem?_eq_getElem hj] at this
          exact this
      | some i =>
        obtain ⟨hi1, hi2, hend, hno⟩ := cutI_some hcut
        have hw : wr sg W lead cur (w :: rest) = (cur ++ [w]).take i :: wr sg W 1 ((cur ++ [w]).drop i) rest := by
          simp only [wr]; rw [if_neg hfit, hcut]
        generalize hg : (cur ++ [w]).take i = g at hw
        generalize hk : (cur ++ [w]).drop i = k at hw
        have hgk : cur ++ [w] = g ++ k := by rw [← hg, ← hk, List.take_append_drop]
        have hlen' : (cur ++ [w]).length = cur.length + 1 := by simp
        have hgl : g.length = i := by rw [← hg, List.length_take, hlen']; exact Nat.min_eq_left (Nat.le_succ_of_le hi2)
        have hkl : k.length = cur.length + 1 - i := by rw [← hk, List.length_drop, hlen']
        have hgn : g ≠ [] := by intro e; rw [e] at hgl; simp at hgl; lia
        have hkn : k ≠ [] := by intro e; rw [e] at hkl; simp at hkl; exact Nat.sub_ne_zero_of_lt (Nat.lt_succ_of_le (by assumption)) hkl.symm
        have hgsign : endsS sg (g.getLastD []) = true := by
          have e : g.getLastD [] = (cur ++ [w]).getD (i - 1) [] := by
            rw [← hg, List.getLastD_eq_getLast?, List.getLast?_eq_getElem?, List.length_take, List.getD_eq_getElem?_getD]
            rw [List.getElem?_take]
            rw [hlen', Nat.min_eq_left (Nat.le_succ_of_le hi2), if_pos (Nat.sub_lt hi1 Nat.one_pos)]
          rw [e]; exact hend
        have hknos : ∀ x ∈ k.dropLast, endsS sg x = false := by
          intro x hx
          obtain ⟨j, hj, rfl⟩ := List.mem_iff_getElem.mp hx
          rw [List.length_dropLast] at hj
          have h1 := hno (i + j) (Nat.le_add_right _ _) (nb12 hkl hj)
          rw [List.getD_eq_getElem?_getD] at h1
          have h2 : (cur ++ [w])[i + j]? = some (k.dropLast[j]) := by
            rw [List.getElem_dropLast]
            have : k[j]? = (cur ++ [w])[i + j]? := by rw [← hk, List.getElem?_drop]
            rw [← this, List.getElem?_eq_getElem (Nat.lt_of_lt_of_le hj (Nat.sub_le _ _))]
          rw [h2] at h1
          exact h1
        have e3 : done ++ cur ++ w :: rest = (done ++ g) ++ k ++ rest := by rw [e1, hgk]; simp
        have hdg : (done ++ g) ≠ [] := by simp [hgn]
        have hdl : endsS sg ((done ++ g).getLastD []) = true := by
          have : (done ++ g).getLastD [] = g.getLastD [] := by
            rw [List.getLastD_eq_getLast?, List.getLastD_eq_getLast?, List.getLast?_append]
            cases hh : g.getLast? with
            | none => exact absurd (List.getLast?_eq_none_iff.mp hh) hgn
            | some v => rfl
          rw [this]; exact hgsign
        have hklen := hseg (done ++ g) k rest e3 hkn (.inr hdl) hknos
        rw [if_neg hdg] at hklen
        obtain ⟨r1, r2, r3⟩ := ih (done ++ g) k 1 hkn (e3 ▸ hseg) (.inr ⟨hdg, hdl, rfl⟩) hklen
        rw [hw]
        generalize hs2 : wr sg W 1 k rest = s2 at r1 r2 r3
        have hs2n : s2 ≠ [] := by
          rintro rfl
          have := r1.1
          simp at this
          exact hkn this.1
        have e4 : cur ++ w :: rest = g ++ (k ++ rest) := by rw [e2, hgk]; simp
        have hgpre : ∃ m, cur = g ++ m := by
          refine ⟨cur.drop i, ?_⟩
          rw [← hg, List.take_append_of_le_length hi2, List.take_append_drop]
        have hglen : lead + (blankJoin g).length ≤ W := by
          obtain ⟨m, hm⟩ := hgpre
          by_cases hmn : m = []
          · rw [hmn, List.append_nil] at hm; rw [← hm]; exact hlen
          · rw [hm, blankJoin_app g m hgn hmn, List.length_append] at hlen
            lia
        refine ⟨⟨?_, fun x hx => ?_⟩, ?_, fun s' hs' hf => ?_⟩
        · rw [e4, List.flatten_cons, r1.1]
        · rcases List.mem_cons.mp hx with rfl | hx
          · exact hgn
          · exact r1.2 x hx
        · cases s2 with
          | nil => exact absurd rfl hs2n
          | cons h r => exact ⟨hglen, hgsign, r2⟩
        · cases s' with
          | nil => have := hs'.1; simp at this
          | cons g' r' =>
            obtain ⟨h1, h2, h3⟩ := groups_cons hs'
            rw [e4] at h2
            rcases List.append_eq_append_iff.mp h2 with ⟨m, hm1, hm2⟩ | ⟨m, hm1, hm2⟩
            · -- g' = g ++ m
              by_cases hmn : m = []
              · subst hmn
                rw [List.append_nil] at hm1
                subst hm1
                rw [List.nil_append] at hm2
                have hr'n : r' ≠ [] := by
                  rintro rfl
                  simp at hm2
                  exact hkn hm2.1
                have hgr : Groups r' (k ++ rest) := hm2 ▸ h3
                have hfr : FitG sg W 1 r' := by
                  cases r' with
                  | nil => exact absurd rfl hr'n
                  | cons a b => exact hf.2.2
                rcases r3 r' hgr hfr with rfl | hp
                · exact .inl rfl
                · right
                  rw [splitText, splitText, tailText_ne hr'n, tailText_ne hs2n]
                  have := hp.pre (blankJoin g' ++ [10, 32])
                  simpa using this
              · exfalso
                have hff := fitG_first hf
                -- m and k are both prefixes of k ++ rest
                by_cases hml : k.length ≤ m.length
                · obtain ⟨n, hn⟩ : ∃ n, m = k ++ n := by
                    rcases List.append_eq_append_iff.mp hm2 with ⟨n, a, b⟩ | ⟨n, a, b⟩
                    · exact ⟨n, a⟩
                    · have : n = [] := by
                        have := congrArg List.length a
                        rw [List.length_append] at this
                        exact List.length_eq_zero_iff.mp (by lia)
                      subst this
                      exact ⟨[], by simpa using a.symm⟩
                  rw [hm1, hn] at hff
                  have e5 : (blankJoin (cur ++ [w])).length ≤ (blankJoin (g ++ (k ++ n))).length := by
                    rw [hgk]
                    by_cases hnn : n = []
                    · subst hnn; simp
                    · rw [← List.append_assoc, blankJoin_app (g ++ k) n (by simp [hgn]) hnn, List.length_append]; lia
                  lia
                · obtain ⟨n, hn⟩ : ∃ n, k = m ++ n := by
                    rcases List.append_eq_append_iff.mp hm2 with ⟨n, a, b⟩ | ⟨n, a, b⟩
                    · exfalso
                      have := congrArg List.length a
                      rw [List.length_append] at this
                      lia
                    · exact ⟨n, a⟩
                  have hnn : n ≠ [] := by rintro rfl; rw [List.append_nil] at hn; rw [hn] at hml; lia
                  have hr'n : r' ≠ [] := by
                    rintro rfl
                    rw [hn] at hm2
                    simp at hm2
                    exact hnn hm2.1
                  have hsg : endsS sg (g'.getLastD []) = true := by
                    cases r' with
                    | nil => exact absurd rfl hr'n
                    | cons a b => exact hf.2.1
                  have hlm : g'.getLastD [] ∈ k.dropLast := by
                    have e6 : g'.getLastD [] = m.getLastD [] := by
                      rw [hm1, List.getLastD_eq_getLast?, List.getLastD_eq_getLast?, List.getLast?_append]
                      cases hh : m.getLast? with
                      | none => exact absurd (List.getLast?_eq_none_iff.mp hh) hmn
                      | some v => rfl
                    rw [e6, hn, List.dropLast_append_of_ne_nil hnn]
                    refine List.mem_append_left _ ?_
                    rw [List.getLastD_eq_getLast?, List.getLast?_eq_some_getLast hmn]
                    exact List.getLast_mem hmn
                  have := hknos _ hlm
                  rw [hsg] at this
                  cases this
            · -- g = g' ++ m
              by_cases hmn : m = []
              · subst hmn
                rw [List.append_nil] at hm1
                subst hm1
                rw [List.nil_append] at hm2
                have hr'n : r' ≠ [] := by
                  rintro rfl
                  simp at hm2
                  exact hkn hm2.1
                have hgr : Groups r' (k ++ rest) := hm2 ▸ h3
                have hfr : FitG sg W 1 r' := by
                  cases r' with
                  | nil => exact absurd rfl hr'n
                  | cons a b => exact hf.2.2
                rcases r3 r' hgr hfr with rfl | hp
                · exact .inl rfl
                · right
                  rw [splitText, splitText, tailText_ne hr'n, tailText_ne hs2n]
                  have := hp.pre (blankJoin g ++ [10, 32])
                  simpa using this
              · right
                rw [hm1]
                refine earlier h1 hmn ?_
                rintro rfl
                simp at hm2
                exact hmn hm2.1
end
section
/-- what is to be shown of a new plain object -/
noncomputable def ObjEnd' (s : Shared) (o : Obj) (Q : Value → Shared → Prop) : Prop := ∀ a h tk, (∀ b x, s.heap.get? b = some x → h.get? b = some x) → h.get? a = some o → s.heap.get? a = none → Q (.ref a) { s with heap := h, toks := tk }
theorem ObjEnd'.new {s : Shared} {o : Obj} {Q : Value → Shared → Prop} {tk : Tok} (H : ObjEnd' s o Q) (ho : o.isFreed = false) : Q (.ref s.heap.objs.size) { s with heap := s.heap.push o, toks := tk } :=
  H _ _ tk (fun _ _ e => Heap.get?_push_of_some _ e) (Heap.get?_push_size _ ho) (Heap.get?_none_of_le (Nat.le_refl _))
theorem entry_mget : entryFor table "method_descriptor.__get__" = some Builtin.«method_descriptor.__get__» := entryFor_of_tree (by kernel_rfl)
noncomputable abbrev boundAp (D : Addr) : Obj := { cls := .type "builtin_function_or_method", data := .fields #[.builtin "list.append", .ref D] }
theorem no_frag {h : Heap} : Frag.In [] h := fun _ _ h => nomatch h
section
variable {prog : Program} {w : World} {A : Around} {s : Shared} {R : Result → Shared → Prop} {a : Addr} {xs : Array Value} {k : Nat}
theorem codeApp (hx : s.heap.get? a = some ⟨.type "list", none, .seq xs k, #[]⟩) (h : R (.ok (.ret (.ref s.heap.objs.size))) { s with heap := s.heap.push (boundAp a) }) :
    codeAny (model prog w) A (.call (.builtin "method_descriptor.__get__") ⟨[.builtin "list.append", .ref a, .type "list"], []⟩) R s := by
  refine codeAny_call_builtin_at (plainId_quiet (by decide +kernel) _) entry_mget (run_ev (a := ()) (s' := s) no_frag ?_ (by kernel_rfl))
  exact run_ev1 (a := .done (.ret (.ref s.heap.objs.size))) no_frag hx h (by kernel_rfl)
theorem codeGa {u : Tok} (hx : s.heap.get? a = some ⟨.type "list", none, .seq xs k, #[]⟩) (h : R (.ok (.ret (.ref s.heap.objs.size))) { s with heap := s.heap.push (boundAp a) }) :
    codeAny (model prog w) A (.call (.builtin "list.__getattribute__") ⟨[.ref a, .str "append" u], []⟩) R s := by
  refine codeAny_call_builtin_at (plainId_quiet (by decide +kernel) _) am_entry_list_getattribute (run_ev1 (a := ()) (s' := s) no_frag hx ?_ (by kernel_rfl))
  exact run_evc 3 (r := (.ref s.heap.objs.size, { s with heap := s.heap.push (boundAp a) })) (a := .done (.ret (.ref s.heap.objs.size))) no_frag hx (fun _ => no_frag) (fun A R h => codeApp hx h) h (by kernel_rfl)
theorem getAttr_append {Q : Value → Shared → Prop} {E : Value → Shared → Prop} (hx : s.heap.get? a = some ⟨.type "list", none, .seq xs k, #[]⟩) (h : ObjEnd' s (boundAp a) Q) : wpAny (model prog w) A (getAttr (.ref a) "append" true) Q E s :=
  run_evc 1 (s₁ := { s with toks := s.toks + 1 }) (r := (.ref s.heap.objs.size, { s with heap := s.heap.push (boundAp a), toks := s.toks + 1 })) no_frag hx (fun _ => no_frag) (fun A R h => codeGa (u := s.toks) hx h) (h.new (tk := s.toks + 1) rfl) (by kernel_rfl)
theorem checkBound_append {Q : Unit → Shared → Prop} {E : Value → Shared → Prop} {x : Value} (hx : s.heap.get? a = some ⟨.type "list", none, .seq xs k, #[]⟩) (h : Q () s) : wpAny (model prog w) A (checkBoundCall "list.append" ⟨[.ref a, x], []⟩) Q E s :=
  run_evn 3 (a := ()) no_frag hx h (by kernel_rfl)
end
theorem call_boundAppend {prog : Program} {w : World} {A : Around} {s : Shared} {h₀ : Heap} {L : Addr} {m : Str → Option Value} {news news' : List (Addr × Obj)} {Q : Value → Shared → Prop} {E : Value → Shared → Prop} {b D : Addr} {its : Array Value} {n : Nat} {x : Value}
    (hb : (b, ({ cls := .type "builtin_function_or_method", data := .fields #[.builtin "list.append", .ref D] } : Obj)) ∈ news)
    (F : Fr h₀ L s.heap m) (N : News h₀ L s.heap news) (U : Upd D (listOf its n) (listOf (its.push x) (n + 1)) news news')
    (h : ∀ h', Fr h₀ L h' m → News h₀ L h' news' → Q .none { s with heap := h' }) (hsz : its.size ≤ sizeLine := by size_fits) : wpAny (model prog w) A (call (.ref b) [x]) Q E s := by
  obtain ⟨pre, post, rfl, rfl, a1, a2⟩ := U.split
  have z := N (D, listOf its n) (List.mem_append.mpr (.inr (.head _)))
  have zb := (N _ hb).1
  refine wpAny_call (codeAny_of_tree ?_)
  show wpAny _ _ (callAny (.ref b) _) _ _ _
  refine wpAny_bind (wpAny_load zb ?_)
  refine wpAny_bind (checkBound_append z.1 ?_)
  refine wpAny_pure (And.intro (plainId_quiet (by decide +kernel) _) (codeAny_builtin PySem.F.entry_list_append ?_))
  show wpAny _ _ (updateSeq D (·.push x) >>= fun _ => ret .none) _ _ s
  refine wpAny_bind ?_
  refine wpAny_updateSeq z.1 rfl (wpAny_pure (h _ (F.change (Heap.SameBut.update ..) z.2.1 z.2.2) (news_set N a1 a2 (Heap.SameBut.update ..) ?_)))
  rw [Heap.get?_update_self _ z.1 (by rw [mapSeq_push]; rfl), mapSeq_push]
theorem getAttr_appendK {prog : Program} {w : World} {A : Around} {s : Shared} {Q : Value → Shared → Prop} {E : Value → Shared → Prop} {h₀ : Heap} {L : Addr} {m : Str → Option Value} {news : List (Addr × Obj)} {D : Addr} {its : Array Value} {n : Nat}
    (F : Fr h₀ L s.heap m) (N : News h₀ L s.heap news) (hm : (D, listOf its n) ∈ news)
    (k : ∀ b h' tk, Fr h₀ L h' m → News h₀ L h' ((b, boundAp D) :: news) → (∀ p ∈ news, p.1 ≠ b) → Q (.ref b) { s with heap := h', toks := tk }) : wpAny (model prog w) A (getAttr (.ref D) "append" true) Q E s := by
  refine getAttr_append (N _ hm).1 fun b h tk hk hb hn => k b h tk (F.keeps hk) (fun p hp => ?_) fun p hp e => by rw [← e, (N p hp).1] at hn; cases hn
  rcases List.mem_cons.mp hp with rfl | hp
  · refine ⟨hb, fun e => ?_, ?_⟩
    · obtain ⟨oL, _, _, hL, _⟩ := F.ns
      simp only at e
      rw [e, hL] at hn; cases hn
    · cases e : h₀.get? b with
      | none => rfl
      | some o' => rw [F.keep _ _ e] at hn; cases hn
  · exact N.grown hk p hp
section
variable {prog : Program} {w : World} {A : Around} {s : Shared} {E : Value → Shared → Prop} {h₀ : Heap} {L : Addr} {m : Str → Option Value} {news : List (Addr × Obj)} {D b : Addr}
noncomputable def KM (k : Keeper) (P : Prop) : Prop := k = .machine ∧ P
theorem keeper_bound {P : Shared → Prop} (N : News h₀ L s.heap news) (hm : (b, boundAp D) ∈ news) (h : P s) : wpAny (model prog w) A (keeperOf (.ref b)) (fun k s₂ => KM k (P s₂)) E s := by
  delta keeperOf
  refine wpAny_bind (wpAny_load (N _ hm).1 ?_)
  exact wpAny_pure ⟨rfl, h⟩
theorem callWith_b {pos : Pos} {env : Env} {e : Expr} {rest : List Expr} {Q : Value → Shared → Prop} (_N : News h₀ L s.heap news) (_hm : (b, boundAp D) ∈ news)
    (h : wpAny (model prog w) A (spliced (backTo pos (starEach (e :: rest) env))) (fun vs s₁ => wpAny (model prog w) A (keeperOf (.ref b)) (fun k s₂ => KM k (wpAny (model prog w) A (call (.ref b) vs) Q E s₂)) E s₁) E s)
    (he : starEach (e :: rest) env = (false, eval e env) :: starEach rest env := by rfl) (hplain : (backTo pos (starEach rest env)).any (·.1) = false := by rfl) :
    wpAny (model prog w) A (callWith pos (.ref b) [] (backTo pos (starEach (e :: rest) env)) []) Q E s := by
  rw [he] at h ⊢
  have hp : (backTo pos ((false, eval e env) :: starEach rest env)).any (·.1) = false := by show (false || (backTo pos (starEach rest env)).any (·.1)) = false; rw [hplain]; rfl
  delta callWith
  refine wpAny_bind (wpAny_holding (wpAny_mono (evalArgs_plain (Q := fun (a : Args) s₁ => wpAny (model prog w) A (keeperOf (.ref b)) (fun k s₂ => KM k (wpAny (model prog w) A (call (.ref b) a.pos a.kw) Q E s₂)) E s₁) h) (fun a s₁ h₁ => wpAny_bind (wpAny_standAt ?_)) fun _ _ x => x))
  simp -iota only [hp, List.any_nil, Bool.or_false]
  refine wpAny_bind (wpAny_mono h₁ (fun k s₂ hk => ?_) fun _ _ x => x)
  obtain ⟨rfl, hc⟩ := hk
  exact wpAny_bind (wpAny_mono hc (fun r s₂ hr => wpAny_bind (wpAny_holding (wpAny_point (wpAny_pure hr)))) fun _ _ x => x)
theorem item_lastV {value slice : Expr} {ws : List Value} {v : Value} {u : Tok} {Q : Value → Shared → Prop} (hl : s.heap.IsList D (List.toArray (ws ++ [v]))) (h : Q v s)
    (hs : subscripted slice false (.ref D) (.int (-1) u) = operate [.ref D, .int (-1) u] (getItem (.ref D) (.int (-1) u)) := by with_unfolding_all rfl) :
    wpAny (model prog w) A (subscriptTail value slice (.ref D) (.int (-1) u)) Q E s :=
  kde_neg (j := ws.length) hl (by decide) (by decide) (by rw [List.length_append, List.length_singleton, StrLaws.seqIndex_neg (by decide) (show -((ws.length + 1 : Nat) : Int) ≤ -1 from Int.neg_le_neg (Int.ofNat_le.mpr (Nat.succ_le_succ (Nat.zero_le _))))]; exact congrArg some (nb14 (qa := 1))) (by simp) h hs
end
end
section
/-- the table of nested codes of _translate, before and after its lambda was made -/
noncomputable def tabOf (tb : Option Addr) : Array Value := match tb with
  | none => #[]
  | some c => #[rawInt 171, rawInt 39, .ref c]
theorem news_ne {h₀ h : Heap} {L a b : Addr} {news : List (Addr × Obj)} {o1 o2 : Obj} (N : News h₀ L h news) (h1 : (a, o1) ∈ news) (h2 : (b, o2) ∈ news) (d : o1.cls ≠ o2.cls) : a ≠ b := fun e => by
  have e1 := (N _ h1).1
  have e2 := (N _ h2).1
  simp only at e1 e2
  rw [e, e2] at e1
  exact d (by rw [Option.some.inj e1])
section
variable {prog : Program} {w : World} {A A₀ : Around} {s : Shared} {K : Frag} {L P : Addr} {h₀ base : Heap} {m mg mb : Str → Option Value} {p : Program} {loose : List Str} {mean : ExcName → Option Value}
/-- a call of a def of the text; one table of the caller's ledger is handed on to the callee's ledger -/
theorem enterT {env : Env} {outer : List Env} {R : Result → Shared → Prop} {name qual : Str} {params : Arguments} {body : List Stmt} {scope : Scope} {dV kV doc pm cdv ct oc : Value} {an od : Option Addr} {osl : Array (Option Value)} {f : Addr} {args : Args} {binds : List (Str × Value)} {ps : Array Value}
    (N : News h₀ L s.heap [(P, tabObj ps)])
    (B : Below A₀ base outer h₀) (F : Fr h₀ L s.heap m) (X₀ : K.In h₀) (T : Top p loose mean mg mb h₀) (hA : A.frames = some (env :: outer)) (hf : env.frame = some L) (hke : env.scope.kind = .function)
    (ho : K.lookup f = some ⟨oc, od, .func (fnOf name qual params body scope dV kV doc pm an cdv ct), osl⟩) (hcd : codeIn K cdv qual = true) (hroom : A.depth < recursionLimit)
    (hbind : BindsTo s (fnOf name qual params body scope dV kV doc pm an cdv ct) args binds) (hloc : ∀ y ∈ binds, scope.names.lookup y.1 = some .local)
    (h : ∀ L' h₁ g, (∀ b o, s.heap.get? b = some o → b ≠ P → g.get? b = some o) → Fr g L' h₁ (fun y => binds.reverse.lookup y) → News g L' h₁ [(P, tabObj ps)] → Below A base (env :: outer) g → K.In g → Top p loose mean mg mb g → (∀ b, s.heap.get? b = none → g.get? b = none) →
      wpAny (model prog w) (A.deeper (envOf qual scope L' f cdv)) (execs body (envOf qual scope L' f cdv))
        (fun fl s' => R (.ok (.ret (match fl with | .ret v => v | _ => .none))) s')
        (fun e s' => wpAny (model prog w) (A.deeper (envOf qual scope L' f cdv)) (leaving (envOf qual scope L' f cdv) e) (fun _ s'' => R (.error e) s'') (fun e' s'' => R (.error e') s'') s')
        { s with heap := h₁, toks := s.toks + binds.length })
    (hco : scope.isCoroutine = false) (hgen : scope.isGenerator = false) (hk : scope.kind = .function)
    (hcell : ∀ x ∈ scope.names, x.2 ≠ .cell) : codeAny (model prog w) A (.call (.ref f) args) R s := by
  obtain ⟨FG, BG, st, lv⟩ := groundX (R := R) (news := [(P, tabObj ps)]) B F N hA hf hke
  refine codeAny_call_def (fd := fnX name qual params body scope [] dV kV doc pm an cdv ct) (body := body) (binds := binds) hroom ((X₀.keeps F.keep) _ _ ho) rfl (T.nolimit.keeps F.keep) (codeRec_of (X₀.keeps F.keep) hcd) rfl hbind hcell hloc (fun h₁ hns hk₁ => ?_) hco hgen hk
  have hP := N _ (.head _)
  refine h s.heap.objs.size h₁ _ (fun b o e hb => hideAll_get _ e (by simpa using hb)) ⟨hns, fun b o e => hk₁ b o (of_hideAll _ e), Nat.le_of_eq (hideAll_size _ _)⟩ (fun q hq => ?_) BG (X₀.keeps st) (T.keeps st) (fun b e => ?_)
  · rw [List.mem_singleton.mp hq]
    exact ⟨hk₁ _ _ hP.1, Nat.ne_of_lt (Heap.lt_size hP.1), hideAll_none _ (.head _)⟩
  · cases q : (hideAll s.heap ([(P, tabObj ps)].map (·.1))).get? b with
    | none => rfl
    | some o => rw [of_hideAll _ q] at e; cases e
end
section
variable {M : Model} {A : Around} {E : Value → Shared → Prop} {s : Shared} {h₀ : Heap} {L a c P : Addr} {m mg mb : Str → Option Value} {cn : Str} {cs : Scope} {ccd : Value} {cl : List (Str × Addr)}
  {p : Program} {loose : List Str} {mean : ExcName → Option Value} {params : Arguments} {body : Expr} {scope : Scope} {pos : Pos} {clos : List (Str × Addr)} {tb : Option Addr} {D b : Addr} {oD ob : Obj}
/-- the lambda of _translate is made, for the first time or again -/
theorem lamT {Q : Value → Shared → Prop} (hline : pos.line = 171) (hcol : pos.col = 39) (hdef : defaultsOf params (envX cn cs L a ccd cl) = ([], [])) (F : Fr h₀ L s.heap m) (N : News h₀ L s.heap [(D, oD), (b, ob), (P, tabObj (tabOf tb))]) (hD : D ≠ P) (hb : b ≠ P)
    (T : Top p loose mean mg mb h₀) (C : CodeHd h₀ c P) (hcd : ccd = .ref c) (hcl : closureFor scope (envX cn cs L a ccd cl) = pure clos)
    (h : ∀ f fd c' h' tk, Fr h₀ L h' m → News h₀ L h' [(f, ⟨.type "function", none, .func fd, #[]⟩), (D, oD), (b, ob), (P, tabObj (tabOf (some c')))] → D ≠ f ∧ b ≠ f → Q (.ref f) { s with heap := h', toks := tk }) :
    wpAny M A (eval (.Lambda params body scope pos) (envX cn cs L a ccd cl)) Q E s := by
  refine kla_eval hdef ?_
  cases tb with
  | none =>
    refine kla_nest F N T C hcd (.tail hD (.tail hb (.head (by simp)))) (by simp [TriplesOk, tabOf]) (by simp [codeAmong, tabOf]) hcl fun f c' oc vs t ctv h' tk F' N' d1 d2 l1 l2 => ?_
    have l3 := l1 _ (.head _)
    have l4 := l1 _ (.tail _ (.head _))
    refine h f (kla_fn "<lambda>" ((envX cn cs L a ccd cl).qual ++ "<lambda>") params body scope clos ((mg "__name__").getD .none) (.ref c') ctv) c' h' tk F' (fun q hq => N' q ?_) ⟨Nat.ne_of_lt (Nat.lt_trans l3 l2), Nat.ne_of_lt (Nat.lt_trans l4 l2)⟩
    rw [hline, hcol]
    simp only [tabOf, List.mem_cons, List.not_mem_nil, or_false] at hq ⊢
    rcases hq with rfl | rfl | rfl | rfl
    · exact .inl rfl
    · exact .inr (.inr (.inl rfl))
    · exact .inr (.inr (.inr (.inl rfl)))
    · exact .inr (.inr (.inr (.inr rfl)))
  | some c' =>
    refine kla_hit (c' := c') F N T C hcd (.tail _ (.tail _ (.head _))) (by simp [TriplesOk, tabOf, rawInt]) (by simp [codeAmong, tabOf, rawInt, hline, hcol]) hcl fun f ctv h' tk F' N' l1 => ?_
    exact h f _ c' h' tk F' N' ⟨Nat.ne_of_lt (l1 _ (.head _)), Nat.ne_of_lt (l1 _ (.tail _ (.head _)))⟩
end
end
section
noncomputable def StrEnd (s : Shared) (y : Str) (Q : Value → Shared → Prop) : Prop := ∀ t tk h, (∀ b x, s.heap.get? b = some x → h.get? b = some x) → Q (.str y t) { s with heap := h, toks := tk }
theorem StrEnd.close0 {s : Shared} {y z : Str} {Q : Value → Shared → Prop} {t tk} (H : StrEnd s y Q) (e : y = z) : Q (.str z t) { s with toks := tk } := e ▸ H t tk s.heap fun _ _ e => e
theorem entry_sub : entryFor table "re.Pattern.sub" = some Builtin.«re.Pattern.sub» := entryFor_of_tree (by kernel_rfl)
theorem entry_subLoop : entryFor table "re.Pattern.sub.loop" = some Builtin.«re.Pattern.sub.loop» := entryFor_of_tree (by kernel_rfl)
theorem entry_join : entryFor table "str.join" = some Builtin.«str.join» := entryFor_of_tree (by kernel_rfl)
noncomputable abbrev lst1 (y : Str) (t : Tok) : Obj := ⟨.type "list", none, .seq #[.str y t] 1, #[]⟩
theorem codeJoin1 {prog : Program} {w : World} {A : Around} {s : Shared} {R : Result → Shared → Prop} {n : Addr} {y : Str} {t u : Tok} (hn : s.heap.get? n = some (lst1 y t)) (h : R (.ok (.ret (.str y t))) s) :
    codeAny (model prog w) A (.call (.builtin "str.join") ⟨[.str Str.empty u, .ref n], []⟩) R s := by
  refine codeAny_call_builtin_at (plainId_quiet (by decide +kernel) _) entry_join (run_ev (a := ()) (s' := s) no_frag ?_ (by kernel_rfl))
  exact run_evn 2 (a := .done (.ret (.str y t))) no_frag hn h (by kernel_rfl)
theorem subC {w : World} {A : Around} {s : Shared} {Q : Value → Shared → Prop} {E : Value → Shared → Prop} {c : Nat} (hc : c = 10 ∨ c = 59 ∨ c = 44) (t1 : Tok) (lam : Addr) (fd : FuncData) (sl : Array (Option Value)) (X : (Mine.hd.heap_1 w.params).In s.heap)
    (hf : s.heap.get? lam = some ⟨.type "function", none, .func fd, sl⟩) (h : StrEnd s (mkS [33, c]) Q) :
    wpAny (model PySem.Challenge.rw_ik0127_01.row.prog w) A (call (.builtin "re.Pattern.sub") [.ref 204, .ref lam, .str (mkS [33, c]) t1]) Q E s := by
  have keep : ∀ o b x, s.heap.get? b = some x → (s.heap.push o).get? b = some x := fun o _ _ e => Heap.get?_push_of_some o e
  have h0 : (s.heap.push (listOf #[] 0)).get? s.heap.objs.size = some (listOf #[] 0) := Heap.get?_push_size _ rfl
  have h1 : ((s.heap.push (listOf #[] 0)).update s.heap.objs.size (Obj.mapSeq (·.push (.str (mkS [33, c]) s.toks)))).get? s.heap.objs.size = some (lst1 (mkS [33, c]) s.toks) := Heap.get?_update_self _ h0 rfl
  refine wpAny_call (codeAny_call_builtin_at (plainId_quiet (by decide +kernel) _) entry_sub (run_ev (a := ()) (s' := s) X ?_ (by rcases hc with rfl | rfl | rfl <;> kernel_rfl)))
  refine run_ev1 (a := .again (.builtin "re.Pattern.sub.loop" ⟨[.ref 204, .str (mkS [33, c]) t1, .ref lam, rawInt 1, rawInt 0, rawInt 0, rawInt 0, rawInt 0, .bool false, .ref s.heap.objs.size, .bool false], []⟩)) (s' := { s with heap := s.heap.push (listOf #[] 0) }) X hf ?_ (by rcases hc with rfl | rfl | rfl <;> kernel_rfl)
  refine ⟨plainId_quiet (by decide +kernel) _, codeAny_builtin entry_subLoop ?_⟩
  refine run_evs (ls := [none, none, some (listOf #[] 0), some (listOf #[] 0), some (lst1 (mkS [33, c]) s.toks), some (lst1 (mkS [33, c]) s.toks)])
    (cs := [(.str (mkS [33, c]) s.toks, { s with heap := (s.heap.push (listOf #[] 0)).update s.heap.objs.size (Obj.mapSeq (·.push (.str (mkS [33, c]) s.toks))), toks := s.toks + 2 })])
    (a := .done (.ret (.str (mkS [33, c]) s.toks))) (s' := { s with heap := (s.heap.push (listOf #[] 0)).update s.heap.objs.size (Obj.mapSeq (·.push (.str (mkS [33, c]) s.toks))), toks := s.toks + 2 })
    (o1 := [(s.heap.push (listOf #[] 0), s.heap.objs.size, listOf #[] 0, false), (s.heap.push (listOf #[] 0), s.heap.objs.size, listOf #[] 0, true), ((s.heap.push (listOf #[] 0)).update s.heap.objs.size (Obj.mapSeq (·.push (.str (mkS [33, c]) s.toks))), s.heap.objs.size, lst1 (mkS [33, c]) s.toks, false),
      ((s.heap.push (listOf #[] 0)).update s.heap.objs.size (Obj.mapSeq (·.push (.str (mkS [33, c]) s.toks))), s.heap.objs.size, lst1 (mkS [33, c]) s.toks, false)])
    (o2 := [(.call (.builtin "str.join") ⟨[.str Str.empty (s.toks + 1), .ref s.heap.objs.size], []⟩, { s with heap := (s.heap.push (listOf #[] 0)).update s.heap.objs.size (Obj.mapSeq (·.push (.str (mkS [33, c]) s.toks))), toks := s.toks + 2 }, .str (mkS [33, c]) s.toks, { s with heap := (s.heap.push (listOf #[] 0)).update s.heap.objs.size (Obj.mapSeq (·.push (.str (mkS [33, c]) s.toks))), toks := s.toks + 2 })])
    (X.keeps (keep _)) ?_ ?_ ?_ (by rcases hc with rfl | rfl | rfl <;> kernel_rfl)
  · have hk : (Mine.hd.heap_1 w.params).lookup s.heap.objs.size = none := by
      cases e : (Mine.hd.heap_1 w.params).lookup s.heap.objs.size with
      | none => rfl
      | some o => exact nomatch (X _ _ e).symm.trans (Heap.get?_none_of_le (Nat.le_refl _))
    exact told1 h0 (toldU h0 hk (told1 h1 (told1 h1 told0)))
  · exact List.forall_mem_cons.mpr ⟨⟨fun x => x, fun A R h => codeJoin1 h1 h⟩, List.forall_mem_nil _⟩
  · exact h _ _ _ fun b x e => Heap.get?_update_of_ne _ (fun hb => by rw [← hb, Heap.get?_none_of_le (Nat.le_refl _)] at e; cases e) (keep _ b x e)
theorem entry_replace : entryFor table "str.replace" = some Builtin.«str.replace» := entryFor_of_tree (by kernel_rfl)
theorem replC {w : World} {A : Around} {s : Shared} {Q : Value → Shared → Prop} {E : Value → Shared → Prop} {c : Nat} (hc : c = 10 ∨ c = 59 ∨ c = 44) (t1 t2 t3 : Tok) (h : StrEnd s (mkS [33, c]) Q) :
    wpAny (model PySem.Challenge.rw_ik0127_01.row.prog w) A (call (.builtin "str.replace") [.str (mkS [33, c]) t1, .str (Str.ofString "\\") t2, .str (Str.ofString "\\\\") t3]) Q E s := by
  refine wpAny_call (codeAny_call_builtin_at (plainId_quiet (by decide +kernel) _) entry_replace (run_ev (a := ()) (s' := s) no_frag ?_ (by rcases hc with rfl | rfl | rfl <;> kernel_rfl)))
  exact run_ev (a := .done (.ret (.str (mkS [33, c]) t1))) (s' := s) no_frag (h t1 s.toks s.heap fun _ _ e => e) (by rcases hc with rfl | rfl | rfl <;> kernel_rfl)
theorem plainAttrs_pat : PlainAttrs "re.Pattern" :=
  ⟨⟨"object.__getattribute__", by rw [typeLookup_type, builtinLookup_eq_fast]; kernel_rfl, by decide +kernel⟩, by rw [typeLookup_type, builtinLookup_eq_fast]; kernel_rfl⟩
theorem slot_pat_sub : Slot "re.Pattern" "sub" "re.Pattern.sub" :=
  .of (owner := "re.Pattern") (n := "sub") (by rw [typeLookup_type, builtinLookup_eq_fast]; kernel_rfl) (by decide +kernel) (by decide +kernel) (by decide +kernel)
    (by first | exact .inl (by decide +kernel) | exact .inr (by decide +kernel)) (by rw [isSubtype_type]; kernel_rfl)
theorem type_pat_sub : typeOf (.builtin "re.Pattern.sub") = pure (.type "method_descriptor") := by show builtinType _ = _; rw [builtinType_eq_fast]; kernel_rfl
theorem gm_sub {w : World} {M : Model} {A : Around} {E : Value → Shared → Prop} {s : Shared} {pl : Sem Bool} {Q : Value × List Value → Shared → Prop} (X : (Mine.hd.heap_1 w.params).In s.heap) (h : Q (.builtin "re.Pattern.sub", [.ref 204]) s) : wpAny M A (getMethod (.ref 204) "sub" pl) Q E s := by
  have hx : ∃ o, s.heap.get? 204 = some o ∧ o.cls = .type "re.Pattern" ∧ o.dict = none := by
    revert X; k_fill; intro X
    exact ⟨_, X 204 _ rfl, rfl, rfl⟩
  obtain ⟨o, ho, hc, hd⟩ := hx
  exact getMethod_builtin ⟨o, ho, hc⟩ plainAttrs_pat slot_pat_sub type_pat_sub (fun a e => ⟨o, by cases e; exact ho, hd⟩) h
end
section
noncomputable def IntKeysB (es : List DictEntry) : Bool := es.all fun e => match e.key with | .int k _ => e.hash == hashInt k | _ => false
theorem intKeys_of {es : Array DictEntry} (h : IntKeysB es.toList = true) : IntKeys es := fun e he => by
  have h1 := List.all_eq_true.mp h e (by simpa using he)
  cases hk : e.key with
  | int k t => rw [hk] at h1; exact ⟨k, t, rfl, by simpa using h1⟩
  | _ => rw [hk] at h1; cases h1
theorem lookup10 {prog : Program} {w : World} {A : Around} {s : Shared} {Q : Builtin.Str.Mapped → Shared → Prop} {E : Value → Shared → Prop} {f : Int → Option Value} {t : Tok} (hm : s.heap.IntMap 213 f) (hv : f 10 = some (.str ⟨#[92, 10]⟩ t))
    (h : Q (.text ⟨#[92, 10]⟩) { s with toks := s.toks + 1 + 1 }) : wpAny (model prog w) A (Builtin.Str.tableLookup (.ref 213) 10) Q E s := by
  obtain ⟨hp, g, d, tk, os⟩ := s
  have sub1 : isSubtype (.type "str") (.type "int") = pure false := by rw [isSubtype_type]; kernel_rfl
  have sub2 : isSubtype (.type "str") (.type "str") = pure true := by rw [isSubtype_type]; kernel_rfl
  unfold Builtin.Str.tableLookup
  refine wpAny_bind (wpAny_attempt (wpAny_bind (wpAny_mkInt ?_)))
  refine wpAny_getItem_intMap hm hv ?_
  repeat (any_goals (first | assumption | wp_step))
theorem escapeNl {w : World} {A : Around} {s : Shared} {Q : Value → Shared → Prop} {E : Value → Shared → Prop} (t1 : Tok) (X : (Mine.hd.heap_1 w.params).In s.heap) (h : StrEnd s (Str.ofString "\\\n") Q) :
    wpAny (model PySem.Challenge.rw_ik0127_01.row.prog w) A (call (.builtin "str.translate") [.str (Str.ofString "\n") t1, .ref 213]) Q E s := by
  obtain ⟨hp, g, d, tk, os⟩ := s
  have hm : ∃ f, Heap.IntMap hp 213 f ∧ f 10 = some (.str ⟨#[92, 10]⟩ 675) := by
    revert X; k_fill; intro X
    have h213 := X 213 _ rfl
    refine ⟨_, ⟨_, _, _, h213, rfl, rfl, intKeys_of (by decide +kernel), fun _ => rfl⟩, ?_⟩
    rfl
  obtain ⟨f, hm, hv⟩ := hm
  refine wpAny_call_entry PySem.F.slot_str_translate (s := ⟨hp, g, d, tk, os⟩) (by exact rfl) PySem.F.entry_str_translate ?_ (PySem.F.args_str_translate_2 _ _)
  show wpAny _ _ (Builtin.«str.translate» ⟨[.str ⟨#[10]⟩ t1, .ref 213], []⟩) _ _ _
  have sub1 : isSubtype (.type "str") (.type "int") = pure false := by rw [isSubtype_type]; kernel_rfl
  have sub2 : isSubtype (.type "str") (.type "str") = pure true := by rw [isSubtype_type]; kernel_rfl
  unfold Builtin.«str.translate»
  repeat (any_goals (first | assumption | ((with_reducible refine (?_ : wpAny _ _ (Builtin.Str.tableLookup (Value.ref 213) _) _ _ _)); refine lookup10 hm hv ?_) | wp_step))
  exact ⟨_, rfl, StrEnd.close0 h (by kernel_rfl)⟩
end
section
/-- how often each text is taken -/
noncomputable def manyOf (cnt : Str → Nat) (fs : List Str) : List Str := fs.flatMap fun f => List.replicate (cnt f) f
section
variable {cnt : Str → Nat} {fs : List Str}
theorem many_split {k : Nat} (h : k < fs.length) : manyOf cnt fs = manyOf cnt (fs.take k) ++ (List.replicate (cnt fs[k]) fs[k] ++ manyOf cnt (fs.drop (k + 1))) := by
  have e : fs = fs.take k ++ fs[k] :: fs.drop (k + 1) := by rw [List.getElem_cons_drop, List.take_append_drop]
  conv => lhs; rw [e]
  unfold manyOf
  rw [List.flatMap_append, List.flatMap_cons]
theorem many_next {k : Nat} (h : k < fs.length) : (manyOf cnt (fs.take (k + 1))).length = (manyOf cnt (fs.take k)).length + cnt fs[k] := by
  rw [List.take_succ_eq_append_getElem h]
  unfold manyOf
  rw [List.flatMap_append, List.length_append]
  simp
theorem many_at {k t : Nat} (h : k < fs.length) (ht : t < cnt fs[k]) : (manyOf cnt fs)[(manyOf cnt (fs.take k)).length + t]? = some fs[k] := by
  rw [many_split h, List.getElem?_append_right (Nat.le_add_right _ _), Nat.add_sub_cancel_left, List.getElem?_append_left (by rw [List.length_replicate]; exact ht), List.getElem?_replicate_of_lt ht]
theorem many_first : ∀ {fs : List Str} {x : Str}, (manyOf cnt fs)[0]? = some x → x ∈ fs ∧ 0 < cnt x
  | f :: r, x, h => by
    unfold manyOf at h
    rw [List.flatMap_cons] at h
    by_cases hc : 0 < cnt f
    · rw [List.getElem?_append_left (by rw [List.length_replicate]; exact hc), List.getElem?_replicate_of_lt hc] at h
      cases h
      exact ⟨.head _, hc⟩
    · have h0 : cnt f = 0 := by lia
      rw [h0, List.replicate_zero, List.nil_append] at h
      obtain ⟨h1, h2⟩ := many_first (fs := r) h
      exact ⟨.tail _ h1, h2⟩
  | [], x, h => by cases h
theorem many_rest (k : Nat) : manyOf cnt fs = manyOf cnt (fs.take k) ++ manyOf cnt (fs.drop k) := by
  conv => lhs; rw [← List.take_append_drop k fs]
  unfold manyOf
  rw [List.flatMap_append]
/-- behind the first k there stands a later one -/
theorem many_here {k : Nat} (h : (manyOf cnt (fs.take k)).length < (manyOf cnt fs).length) : ∃ x, (manyOf cnt fs)[(manyOf cnt (fs.take k)).length]? = some x ∧ x ∈ fs.drop k ∧ 0 < cnt x := by
  have h1 : 0 < (manyOf cnt (fs.drop k)).length := by rw [many_rest (fs := fs) k, List.length_append] at h; lia
  obtain ⟨x, hx⟩ : ∃ x, (manyOf cnt (fs.drop k))[0]? = some x := ⟨_, List.getElem?_eq_getElem h1⟩
  refine ⟨x, ?_, many_first hx⟩
  rw [many_rest (fs := fs) k, List.getElem?_append_right (Nat.le_refl _), Nat.sub_self]
  exact hx
theorem many_none {k : Nat} (h : ¬ (manyOf cnt (fs.take k)).length < (manyOf cnt fs).length) : ∀ x ∈ fs.drop k, cnt x = 0 := by
  intro x hx
  have h1 : (manyOf cnt (fs.drop k)) = [] := by
    apply List.eq_nil_of_length_eq_zero
    rw [many_rest (fs := fs) k, List.length_append] at h
    lia
  unfold manyOf at h1
  have := List.flatMap_eq_nil_iff.mp h1 x hx
  exact List.replicate_eq_nil_iff _ |>.mp this
theorem many_le (k : Nat) : (manyOf cnt (fs.take k)).length ≤ (manyOf cnt fs).length := by rw [many_rest (fs := fs) k, List.length_append]; exact Nat.le_add_right _ _
theorem many_len2 (hc : ∀ f, cnt f ≤ 2) : ∀ fs : List Str, (manyOf cnt fs).length ≤ 2 * fs.length
  | [] => Nat.le_refl _
  | f :: r => by
    have h1 := many_len2 hc r
    have h2 := hc f
    unfold manyOf at h1 ⊢
    rw [List.flatMap_cons, List.length_append, List.length_replicate, List.length_cons]
    lia
theorem rise_later {k : Nat} {x : Str} (hs : fs.Pairwise fun x y => x.cps.toList < y.cps.toList) (h : k < fs.length) (hx : x ∈ fs.drop (k + 1)) : fs[k].cps.toList < x.cps.toList := by
  have h1 : (fs.drop k).Pairwise fun x y => x.cps.toList < y.cps.toList := hs.sublist (List.drop_sublist _ _)
  rw [List.drop_eq_getElem_cons h] at h1
  exact (List.pairwise_cons.mp h1).1 x hx
theorem rise_next {k : Nat} (hs : fs.Pairwise fun x y => x.cps.toList < y.cps.toList) (h : k + 1 < fs.length) : fs[k].cps.toList < fs[k + 1].cps.toList :=
  rise_later hs (by lia) (by rw [List.drop_eq_getElem_cons h]; exact .head _)
theorem left_all {k : Nat} (h : ¬ (manyOf cnt (fs.take k)).length < (manyOf cnt fs).length) : (fs.take k).filter (fun f => decide (cnt f = 0)) ++ fs.drop k = fs.filter fun f => decide (cnt f = 0) := by
  conv => rhs; rw [← List.take_append_drop k fs]
  rw [List.filter_append]
  congr 1
  symm
  rw [List.filter_eq_self]
  intro x hx
  exact decide_eq_true (many_none h x hx)
end
end
section
section
variable {prog : Program} {w : World} {A : Around} {E : Value → Shared → Prop} {s : Shared} {K : Frag} {x C dx : Addr} {ox od : Obj} {name : Str}
/-- a method of an object of a class of the text's own, found along the class's order (a built-in one, too) -/
theorem gm_inst {ga : String} {f tf : Value} {pl : Sem Bool} {Q : Value × List Value → Shared → Prop} (X : K.In s.heap) (I : InstAt s.heap x ox C (some od)) (hdx : ox.dict = some dx)
    (h1 : findIn K (.ref C) "__getattribute__" = some (some (.builtin ga))) (hcan : Manifest.canonical ga = "object.__getattribute__") (h2 : findIn K (.ref C) "__getattr__" = some none) (h3 : findIn K (.ref C) name = some (some f))
    (ht : Looks (model prog w) s.heap (typeOf f) tf) (htf : (tf != .type "function" && tf != .type "method_descriptor" && tf != .type "wrapper_descriptor") = false) (ho : lookIn name od = some none)
    (h : Q (f, [.ref x]) s) : wpAny (model prog w) A (getMethod (.ref x) name pl) Q E s := by
  have T : ∀ A Q E, Q (.ref C) s → wpAny (model prog w) A (typeOf (.ref x)) Q E s := fun A Q E q => I.type A Q E s (fun _ _ e => e) q
  have L1 := looks_findIn (M := model prog w) X h1
  have L2 := looks_findIn (M := model prog w) X h2
  have L3 := looks_findIn (M := model prog w) X h3
  delta getMethod specialOf
  refine wpAny_bind (wpAny_bind (T _ _ _ (L1 _ _ _ s (fun _ _ e => e) ?_)))
  dsimp only
  rw [hcan]
  rw [if_neg (by decide)]
  refine wpAny_bind (wpAny_bind (T _ _ _ (L2 _ _ _ s (fun _ _ e => e) ?_)))
  rw [if_neg (by decide)]
  refine wpAny_bind (wpAny_bind (T _ _ _ (L3 _ _ _ s (fun _ _ e => e) ?_)))
  dsimp only
  refine wpAny_bind (ht _ _ _ s (fun _ _ e => e) ?_)
  rw [if_neg (by rw [htf]; decide)]
  refine wpAny_bind (wpAny_loadPart I.at_ ?_)
  rw [hdx]
  dsimp only
  have hd := I.dict
  rw [hdx] at hd
  delta nsGet
  refine wpAny_bind (wpAny_bind (wpAny_loadPart hd ?_))
  rw [nsLook_of ho]
  refine wpAny_pure ?_
  rw [if_neg (by decide)]
  exact wpAny_bind (wpAny_rule (wpAny_pure h))
end
section
variable {prog : Program} {w : World} {A : Around} {E : Value → Shared → Prop} {s : Shared} {K : Frag} {x C : Addr} {ox : Obj} {od : Option Obj}
/-- a built-in method of a base class, called on an object of a class of the text's own -/
theorem call_base {id owner n : String} {b : Builtin} {rest : List Value} {Q : Value → Shared → Prop} (X : K.In s.heap) (I : InstAt s.heap x ox C od) (hm : mroIn K C (.type owner) = some true)
    (hsplit : splitId id = some (owner, n)) (hkind : builtinKind id = some .slot ∨ builtinKind id = some .method) (hq : plainId id = true) (hb : entryFor table id = some b) (ha : argsOk id ⟨.ref x :: rest, []⟩)
    (hc : wpAny (model prog w) A.in1 (b ⟨.ref x :: rest, []⟩) (fun fin s' => ∃ v, fin = .done (.ret v) ∧ Q v s') E s) : wpAny (model prog w) A (call (.builtin id) (.ref x :: rest)) Q E s := by
  refine wpAny_call (codeAny_call_builtin hq hb ?_)
  have fin : wpAny (model prog w) A.in1 (b ⟨.ref x :: rest, []⟩)
      (fun fin s' => match fin with | .done f => (match f with | .ret v => Q v s' | _ => False) | .again c' => c'.quiet = true ∧ codeAny (model prog w) A c' (fun r s'' => match r with | .ok (.ret v) => Q v s'' | .ok _ => False | .error e => E e s'') s') (fun e s' => E e s') s :=
    wpAny_mono hc (fun fin s' h' => by obtain ⟨v, rfl, hv⟩ := h'; exact hv) fun _ _ h' => h'
  have chk : ∀ Q', Q' () s → wpAny (model prog w) A.in1 (checkBuiltinCall id ⟨.ref x :: rest, []⟩) Q' E s := fun Q' q => by
    have T : ∀ A Q E, Q (.ref C) s → wpAny (model prog w) A (typeOf (.ref x)) Q E s := fun A Q E q => I.type A Q E s (fun _ _ e => e) q
    have M1 := looks_mroIn (M := model prog w) X hm
    rcases hkind with h | h <;>
    · simp only [checkBuiltinCall, h, hsplit]
      delta isInstance
      refine wpAny_bind (wpAny_bind (T _ _ _ (M1 _ _ _ s (fun _ _ e => e) ?_)))
      simp only [Bool.not_true, Bool.false_eq_true, if_false]
      cases hsig : Manifest.signature? id with
      | none => exact wpAny_pure q
      | some sig =>
        simp only [argsOk, hsig] at ha
        have h2 : Bind.checkArgs id sig ⟨.ref x :: rest, []⟩ = pure () := ha
        show wpAny _ _ (Bind.checkArgs id sig ⟨.ref x :: rest, []⟩) _ _ _
        rw [h2]; exact wpAny_pure q
  refine wpAny_mono (chk (fun _ s₁ => s₁ = s) rfl) (fun _ s₁ h₁ => ?_) fun _ _ h' => h'
  subst h₁
  refine wpAny_mono hc (fun fin s' h' => ?_) fun _ _ h' => h'
  obtain ⟨v, rfl, hv⟩ := h'; exact hv
end
/-- an accumulator: a list of a class of the text's own -/
noncomputable abbrev accObj (dx : Addr) (its : Array Value) (n : Nat) : Obj := { cls := .ref 195, dict := some dx, data := .seq its n }
section
variable {prog : Program} {w : World} {A : Around} {E : Value → Shared → Prop} {s : Shared} {K : Frag} {x dx : Addr} {od : Obj} {h₀ : Heap} {L : Addr} {m : Str → Option Value} {news news' : List (Addr × Obj)} {its : Array Value} {n : Nat}
theorem acc_inst (N : News h₀ L s.heap news) (h1 : (x, accObj dx its n) ∈ news) (h2 : (dx, od) ∈ news) : InstAt s.heap x (accObj dx its n) 195 (some od) := ⟨(N _ h1).1, rfl, rfl, (N _ h2).1⟩
theorem gm_acc {name : Str} {ga : String} {f tf : Value} {pl : Sem Bool} {Q : Value × List Value → Shared → Prop} (X : K.In s.heap) (N : News h₀ L s.heap news) (hx : (x, accObj dx its n) ∈ news) (hdx : (dx, od) ∈ news)
    (h1 : findIn K (.ref 195) "__getattribute__" = some (some (.builtin ga))) (hcan : Manifest.canonical ga = "object.__getattribute__") (h2 : findIn K (.ref 195) "__getattr__" = some none) (h3 : findIn K (.ref 195) name = some (some f))
    (ht : Looks (model prog w) s.heap (typeOf f) tf) (htf : (tf != .type "function" && tf != .type "method_descriptor" && tf != .type "wrapper_descriptor") = false) (ho : lookIn name od = some none)
    (h : Q (f, [.ref x]) s) : wpAny (model prog w) A (getMethod (.ref x) name pl) Q E s := gm_inst X (acc_inst N hx hdx) rfl h1 hcan h2 h3 ht htf ho h
/-- a method that the class itself defines -/
theorem gm_user {name : Str} {a : Addr} {pl : Sem Bool} {Q : Value × List Value → Shared → Prop} (X : (Mine.hd.heap_1 w.params).In s.heap) (N : News h₀ L s.heap news) (hx : (x, accObj dx its n) ∈ news) (hdx : (dx, od) ∈ news)
    (h3 : findIn (Mine.hd.heap_1 w.params) (.ref 195) name = some (some (.ref a))) (ht : typeIn (Mine.hd.heap_1 w.params) (.ref a) = some (.type "function")) (ho : lookIn name od = some none)
    (h : Q (.ref a, [.ref x]) s) : wpAny (model prog w) A (getMethod (.ref x) name pl) Q E s := gm_acc X N hx hdx (ga := "list.__getattribute__") (K := Mine.hd.heap_1 w.params) rfl (by decide +kernel) rfl h3 (looks_typeIn X ht) rfl ho h
theorem append_acc {v : Value} {Q : Value → Shared → Prop} (X : K.In s.heap) (F : Fr h₀ L s.heap m) (N : News h₀ L s.heap news) (hdx : (dx, od) ∈ news) (U : Upd x (accObj dx its n) (accObj dx (its.push v) (n + 1)) news news') (hm : mroIn K 195 (.type "list") = some true)
    (h : ∀ h', Fr h₀ L h' m → News h₀ L h' news' → Q .none { s with heap := h' }) (hsz : its.size ≤ sizeLine) : wpAny (model prog w) A (call (.builtin "list.append") [.ref x, v]) Q E s := by
  obtain ⟨pre, post, rfl, rfl, a1, a2⟩ := U.split
  have hx : (x, accObj dx its n) ∈ pre ++ (x, accObj dx its n) :: post := List.mem_append.mpr (.inr (.head _))
  have z := N _ hx
  refine call_base X (acc_inst N hx hdx) hm (owner := "list") (n := "append") (by decide +kernel) (.inr (by rw [builtinKind_eq_fast]; kernel_rfl)) (by decide +kernel) PySem.F.entry_list_append (PySem.F.args_list_append_2 _ _) ?_
  show wpAny _ _ (updateSeq x (·.push v) >>= fun _ => ret .none) _ _ s
  refine wpAny_bind (wpAny_updateSeq z.1 rfl (wpAny_pure ⟨.none, rfl, h _ (F.change (Heap.SameBut.update ..) z.2.1 z.2.2) (news_set N a1 a2 (Heap.SameBut.update ..) ?_)⟩))
  rw [Heap.get?_update_self _ z.1 (by rfl)]
  simp [Obj.mapSeq]
end
end
section
/-- an object that holds a row of items, whatever its class -/
noncomputable def SeqHeld (h : Heap) (l : Addr) (items : Array Value) : Prop := ∃ o, h.get? l = some o ∧ ∃ n, o.data = .seq items n
theorem SeqHeld.at' {h h' : Heap} {l : Addr} {items : Array Value} (x : SeqHeld h l items) (k : ∀ o, h.get? l = some o → h'.get? l = some o) : SeqHeld h' l items := by
  obtain ⟨o, e, r⟩ := x
  exact ⟨o, k _ e, r⟩
section
variable {prog : Program} {w : World} {A : Around} {E : Value → Shared → Prop} {s : Shared} {I l : Addr} {i : Nat} {items : Array Value}
theorem seq_next_item {x : Value} {Q : Option Value → Shared → Prop} (hit : s.heap.IsListIter I l i) (hl : SeqHeld s.heap l items) (hx : items[i]? = some x)
    (hQ : ∀ h', h'.IsListIter I l (i + 1) → Heap.SameBut I s.heap h' → Q (some x) { s with heap := h' }) : wpAny (model prog w) A (pyNext (.ref I)) Q E s := by
  obtain ⟨o, ho, hc, hd⟩ := id hit
  obtain ⟨ol, hol, nl, hdl⟩ := hl
  delta pyNext
  refine wpAny_bind (wpAny_attempt (wpAny_callSpecial?_slot (name := Str.ofString "__next__") hit.typeIs slot_listiter_next (wpAny_call_entry slot_listiter_next hit.typeIs entry_listiter_next ?_ (args_listiter_next _))))
  show wpAny _ _ (field (.ref I) 0 >>= _) _ _ s
  refine wpAny_bind (wpAny_field ho hd (x := .ref l) rfl ?_)
  show wpAny _ _ (if (Value.ref l == Value.none) = true then _ else _) _ _ s
  rw [if_neg (by exact Bool.false_ne_true)]
  show wpAny _ _ (field (.ref I) 1 >>= _) _ _ s
  refine wpAny_bind (wpAny_field ho hd (x := .int i 0) rfl ?_)
  show wpAny _ _ (seqItems? (.ref l) >>= _) _ _ s
  refine wpAny_bind (wpAny_seqItems hol hdl ?_)
  simp only [Int.toNat_natCast, hx]
  have e2 : (Obj.mapFields (fun vs => vs.set! 1 (rawInt (↑i + 1))) o).data = .fields #[.ref l, .int ((i + 1 : Nat) : Int) 0] := by rw [Obj.data_mapFields hd]; simp [rawInt]
  refine wpAny_bind (wpAny_setField ho hd (by simp) (wpAny_pure ⟨x, rfl, wpAny_pure (hQ _ ⟨_, Heap.get?_update_self _ ho (Obj.isFreed_of_fields e2), (Obj.cls_mapFields ..).trans hc, e2⟩ (Heap.SameBut.update ..))⟩))
theorem seq_next_end {Q : Option Value → Shared → Prop} (hh : A.handled = none) (hit : s.heap.IsListIter I l i) (hl : SeqHeld s.heap l items) (hx : items[i]? = none)
    (hQ : ∀ h', Heap.ExtBut I s.heap h' → Q none { s with heap := h' }) : wpAny (model prog w) A (pyNext (.ref I)) Q E s := by
  obtain ⟨o, ho, hc, hd⟩ := id hit
  obtain ⟨ol, hol, nl, hdl⟩ := hl
  delta pyNext
  refine wpAny_bind (wpAny_attempt (wpAny_callSpecial?_slot (name := Str.ofString "__next__") hit.typeIs slot_listiter_next (wpAny_call_entry slot_listiter_next hit.typeIs entry_listiter_next ?_ (args_listiter_next _))))
  show wpAny _ _ (field (.ref I) 0 >>= _) _ _ s
  refine wpAny_bind (wpAny_field ho hd (x := .ref l) rfl ?_)
  show wpAny _ _ (if (Value.ref l == Value.none) = true then _ else _) _ _ s
  rw [if_neg (by exact Bool.false_ne_true)]
  show wpAny _ _ (field (.ref I) 1 >>= _) _ _ s
  refine wpAny_bind (wpAny_field ho hd (x := .int i 0) rfl ?_)
  show wpAny _ _ (seqItems? (.ref l) >>= _) _ _ s
  refine wpAny_bind (wpAny_seqItems hol hdl ?_)
  simp only [Int.toNat_natCast, hx]
  refine wpAny_bind (wpAny_rule (wpAny_bind (wpAny_setField ho hd (by simp) ?_)))
  show wpAny _ _ (newExc (.type "StopIteration") [] >>= _) _ _ _
  refine wpAny_bind ?_
  simp -iota only [newExc, newTuple]
  refine wpAny_bind (wpAny_newObj_type ?_ (by size_fits))
  refine wpAny_bind (m := firstArgMember _ _) (wpAny_of_eq (a := Value.none) (by first | rfl | (simp -iota only [firstArgMember]; rfl)) ?_)
  refine wpAny_newObj_type ?_ (by size_fits)
  simp -iota only [raiseNew]
  refine wpAny_bind (wpAny_handled ?_)
  rw [show A.in1.handled = none from hh]
  refine wpAny_bind (wpAny_pure (wpAny_throw ?_))
  refine wpAny_bind (wpAny_isInstance (T := "StopIteration") (b := true) ⟨_, Heap.get?_push_size _ rfl, rfl⟩ isSubtype_stop ?_)
  exact wpAny_pure (hQ _ (((Heap.SameBut.update ..).extBut.push _).push _))
end
/-- the iterator of an accumulator, whose items are pairs -/
theorem walks_acc {prog : Program} {w : World} {A : Around} (hh : A.handled = none) (I ax : Addr) (hne : ax ≠ I) (items : Array Value) (Ts : Nat → Addr) (vals : Nat → Array Value)
    (hit : ∀ j, j < items.size → items[j]? = some (.ref (Ts j))) (hTI : ∀ j, j < items.size → Ts j ≠ I) :
    WalksU prog w A I (I :: ax :: (List.range items.size).map Ts) [I] items.size (fun j v => v = vals j)
      (fun j h => h.IsListIter I ax j ∧ SeqHeld h ax items ∧ ∀ k, k < items.size → h.IsTuple (Ts k) (vals k))
      (fun j T h => (j < items.size ∧ T = Ts j) ∧ h.IsListIter I ax (j + 1) ∧ SeqHeld h ax items ∧ ∀ k, k < items.size → h.IsTuple (Ts k) (vals k)) where
  sub := fun b hb => by rw [List.mem_singleton.mp hb]; exact .head _
  frame := fun _ _ _ st hk => ⟨st.1.at fun o e => hk I (.head _) o e, st.2.1.at' fun o e => hk ax (.tail _ (.head _)) o e,
    fun k hk' => (st.2.2 k hk').at fun o e => hk (Ts k) (.tail _ (.tail _ (List.mem_map.mpr ⟨k, List.mem_range.mpr hk', rfl⟩))) o e⟩
  item := fun i s Q E hi st hQ => by
    refine seq_next_item st.1 st.2.1 (hit i hi) fun h' hit' hs' => ?_
    have tup : ∀ k, k < items.size → h'.IsTuple (Ts k) (vals k) := fun k hk' => (st.2.2 k hk').extBut hs'.extBut (hTI k hk')
    exact hQ (Ts i) (vals i) h' s.toks rfl (tup i hi) ⟨⟨hi, rfl⟩, hit', st.2.1.at' fun o e => hs'.extBut _ o hne e, tup⟩ fun b o hb e => hs'.extBut b o (fun h => hb (by rw [h]; exact .head _)) e
  go := fun _ _ _ _ _ s Q _ hm hQ => wpAny_letOwnedTupleGo_listiter hm.2.1 (hQ s.heap hm.2 fun _ _ _ e => e)
  apart := fun j T _ hm hmem => hTI j hm.1.1 (by rw [← hm.1.2]; exact List.mem_singleton.mp hmem)
  done := fun s Q E st hQ => seq_next_end hh st.1 st.2.1 (by simp) fun h' he' => hQ h' s.toks fun b o hb e => he' b o (fun h => hb (by rw [h]; exact .head _)) e
  self := fun _ _ _ _ st hQ => wpAny_pyIter_listiter st.1 hQ
section
variable {prog : Program} {w : World} {A : Around} {E : Value → Shared → Prop} {s : Shared} {K : Frag} {x C : Addr} {ox : Obj} {od : Option Obj}
theorem iter_acc {Q : Value → Shared → Prop} (X : K.In s.heap) (I : InstAt s.heap x ox C od) (h1 : findIn K (.ref C) "__iter__" = some (some (.builtin "list.__iter__"))) (hm : mroIn K C (.type "list") = some true)
    (hQ : Q (.ref s.heap.objs.size) { s with heap := s.heap.push { cls := .type "list_iterator", data := .fields #[.ref x, .int 0 0] } }) : wpAny (model prog w) A (pyIter (.ref x)) Q E s := by
  have T : ∀ A Q E, Q (.ref C) s → wpAny (model prog w) A (typeOf (.ref x)) Q E s := fun A Q E q => I.type A Q E s (fun _ _ e => e) q
  have L1 := looks_findIn (M := model prog w) X h1
  have fin : wpAny (model prog w) A (call (.builtin "list.__iter__") [.ref x]) (fun it s' => wpAny (model prog w) A (specialOf it "__next__" >>= fun r => match r with
      | none => (do rule "iter.non-iterator"; raiseError "TypeError" s!"iter() returned non-iterator of type '{← typeNameOf it}'")
      | some _ => pure it) Q E s') E s := by
    refine call_base X I hm (owner := "list") (n := "__iter__") (by decide +kernel) (.inl (by rw [builtinKind_eq_fast]; kernel_rfl)) slot_list_iter.plain entry_list_iter (args_list_iter _) ?_
    show wpAny _ _ (do ret (← newFields "list_iterator" [.ref x, rawInt 0])) _ _ s
    exact wpAny_bind (wpAny_newObj_type (wpAny_pure ⟨_, rfl, wpAny_bind (wpAny_specialOf (T := "list_iterator") ⟨_, Heap.get?_push_size _ rfl, rfl⟩ slot_listiter_next.lookup (wpAny_pure hQ))⟩))
  delta pyIter
  refine wpAny_bind ?_
  delta specialOf
  refine wpAny_bind (T _ _ _ (L1 _ _ _ s (fun _ _ e => e) ?_))
  dsimp only
  refine wpAny_bind ?_
  delta callSpecialIfBoundUnlessNone? bindSpecialIfBound? specialOf
  refine wpAny_holding (wpAny_bind (wpAny_bind (wpAny_bind (T _ _ _ (L1 _ _ _ s (fun _ _ e => e) ?_)))))
  dsimp only
  simp -iota only [slot_list_iter.bind]
  have go : wpAny (model prog w) A (if (Value.builtin "list.__iter__" == Value.none) = true then ((do rule "iter.none"; raiseError "TypeError" s!"'{← typeNameOf (.ref x)}' object is not iterable") >>= fun v => pure (some v)) else (call (.builtin "list.__iter__") [.ref x] >>= fun v => pure (some v)))
      (fun r s' => wpAny (model prog w) A (match r with
        | some it => (do
          match ← specialOf it "__next__" with
          | none => rule "iter.non-iterator"; raiseError "TypeError" s!"iter() returned non-iterator of type '{← typeNameOf it}'"
          | some _ => pure it)
        | none => (do
          match ← bindSpecialIfBound? (.ref x) "__getitem__" with
          | none => rule "iter.not-iterable"; raiseError "TypeError" s!"'{← typeNameOf (.ref x)}' object is not iterable"
          | some _ => rule "iter.getitem-fallback"; newFields "iterator" [.ref x, ← mkInt 0])) Q E s') E s := by
    rw [if_neg (by exact Bool.false_ne_true)]
    exact wpAny_bind (wpAny_mono fin (fun v s' h' => wpAny_pure h') fun _ _ h' => h')
  refine wpAny_bind (wpAny_askSetting (wpAny_ite ?_))
  split
  · exact wpAny_bind (wpAny_pure (wpAny_pure go))
  · exact wpAny_tryCatch (wpAny_bind (wpAny_pure (wpAny_pure go)))
end
end
section
section
variable {prog : Program} {w : World} {A : Around} {E : Value → Shared → Prop} {s : Shared} {K : Frag} {x C : Addr} {ox : Obj} {od : Option Obj} {name : Str} {expr : Bool} {Q : Value → Shared → Prop}
/-- a member of an object of a list's subclass: list's own __getattribute__ is called -/
theorem get_acc {v : Value} (X : K.In s.heap) (I : InstAt s.heap x ox C od) (hga : findIn K (.ref C) "__getattribute__" = some (some (.builtin "list.__getattribute__"))) (hk : findIn K (.ref C) "__getattr__" = some none) (hm : mroIn K C (.type "list") = some true)
    (hf : findObj K C od name = some (.value v)) (hh : handedIn v = true) (h : Q v { s with toks := s.toks + 1 }) : wpAny (model prog w) A (getAttr (.ref x) name expr) Q E s := by
  obtain ⟨hp, g, d, t, os⟩ := s
  have L0 := I.type (M := model prog w)
  have L1 := looks_findIn (M := model prog w) X hga
  have L2 := looks_findIn (M := model prog w) X hk
  have L3 := looks_find (M := model prog w) X I hf
  have hcall : wpAny (model prog w) A (call (.builtin "list.__getattribute__") [.ref x, .str name t]) (fun r s' => r = v ∧ s' = ⟨hp, g, d, t + 1, os⟩) (fun _ _ => False) ⟨hp, g, d, t + 1, os⟩ := by
    refine call_base (s := ⟨hp, g, d, t + 1, os⟩) X I hm (owner := "list") (n := "__getattribute__") (by decide +kernel) (.inl (by rw [builtinKind_eq_fast]; kernel_rfl)) (by decide +kernel) am_entry_list_getattribute (F.args_list_getattribute_2 _ _) ?_
    delta Builtin.«object.__getattribute__»
    show wpAny _ _ (typeOf (.ref x) >>= _) _ _ _
    exact wpAny_bind (L0.at (wpAny_bind (L3.at (wpAny_pure ⟨v, rfl, rfl, rfl⟩))))
  delta getAttr getAttrBy
  refine wpAny_bind (wpAny_mkText (wpAny_holding (wpAny_bind (L0.at (wpAny_bind (L1.at ?_))))))
  show wpAny _ _ (getAttrByItsOwn _ _ _ _ _ _) _ _ _
  delta getAttrByItsOwn hookBefore
  refine wpAny_bind ?_
  show wpAny _ _ (typeLookup (.ref C) "__getattr__") _ _ _
  refine L2.at ?_
  refine wpAny_bind (wpAny_attempt (wpAny_holding ?_))
  delta callGetattribute
  rw [if_neg (by cases expr <;> decide)]
  delta boundAndCalled
  rw [F.slot_list_getattribute.bind]
  refine wpAny_bind (wpAny_pure ?_)
  refine wpAny_mono hcall (fun r s' q => ?_) fun _ _ q => q.elim
  · obtain ⟨rfl, rfl⟩ := q
    show wpAny _ _ (handedOut r) _ _ _
    rw [handedOut_of hh]
    exact wpAny_pure h
end
end
section
/-- the member _initial_size of an accumulator is set; what the store does with the dict at hand is run in the kernel (hev) -/
theorem set_acc {w : World} {A : Around} {E : Value → Shared → Prop} {s : Shared} {x dx L : Addr} {h₀ : Heap} {m : Str → Option Value} {its : Array Value} {k : Nat} {od od' : Obj} {v : Value} {pre post : List (Addr × Obj)} {Q : Unit → Shared → Prop} (F : Fr h₀ L s.heap m) (N : News h₀ L s.heap (pre ++ (dx, od) :: post))
    (X : (Mine.hd.heap_1 w.params).In h₀) (hx : s.heap.get? x = some (accObj dx its k)) (h1 : ∀ p ∈ pre, p.1 ≠ dx) (h2 : ∀ p ∈ post, p.1 ≠ dx) (ho : od'.isFreed = false)
    (e : Obj.putName "_initial_size" (PyData.keyHash w.params "_initial_size") (.str "_initial_size" (s.toks + 1)) v od = od')
    (hev : ev (Mine.hd.heap_1 w.params) ⟨PySem.Challenge.rw_ik0127_01.row.prog, w.params⟩ (Builtin.«object.__setattr__» ⟨[.ref x, .str "_initial_size" s.toks, v], []⟩) [some (accObj dx its k), none, some (accObj dx its k), none, none, none, some (accObj dx its k), none, some od, some od, some od'] [] { s with toks := s.toks + 1 } =
      some (.done (.ret .none), { s with heap := s.heap.update dx (Obj.putName "_initial_size" (PyData.keyHash w.params "_initial_size") (.str "_initial_size" (s.toks + 1)) v), toks := s.toks + 2 },
        [(s.heap, x, accObj dx its k, false), (s.heap, x, accObj dx its k, false), (s.heap, x, accObj dx its k, false), (s.heap, dx, od, false), (s.heap, dx, od, true), (s.heap.update dx (Obj.putName "_initial_size" (PyData.keyHash w.params "_initial_size") (.str "_initial_size" (s.toks + 1)) v), dx, od', false)], []))
    (h : ∀ h', Fr h₀ L h' m → News h₀ L h' (pre ++ (dx, od') :: post) → Heap.SameBut dx s.heap h' → Q () { s with heap := h', toks := s.toks + 2 }) :
    wpAny (model PySem.Challenge.rw_ik0127_01.row.prog w) A (setAttr (.ref x) "_initial_size" v) Q E s := by
  obtain ⟨U1, U2⟩ := news_upd (f := Obj.putName "_initial_size" (PyData.keyHash w.params "_initial_size") (.str "_initial_size" (s.toks + 1)) v) F N h1 h2 e ho
  have D := N (dx, od) (List.mem_append.mpr (.inr (.head _)))
  have D' := (U2 (dx, od') (List.mem_append.mpr (.inr (.head _)))).1
  have X' := X.keeps F.keep
  have hk : (Mine.hd.heap_1 w.params).lookup dx = none := by
    cases z : (Mine.hd.heap_1 w.params).lookup dx with
    | none => rfl
    | some o => exact nomatch (X _ _ z).symm.trans D.2.2
  refine run_evs (ls := [some (accObj dx its k), none, none, none]) (cs := [(.none, { s with heap := s.heap.update dx (Obj.putName "_initial_size" (PyData.keyHash w.params "_initial_size") (.str "_initial_size" (s.toks + 1)) v), toks := s.toks + 2 })]) (a := ()) (s' := { s with heap := s.heap.update dx (Obj.putName "_initial_size" (PyData.keyHash w.params "_initial_size") (.str "_initial_size" (s.toks + 1)) v), toks := s.toks + 2 })
    (o1 := [(s.heap, x, accObj dx its k, false)]) (o2 := [(.call (.builtin "object.__setattr__") ⟨[.ref x, .str "_initial_size" s.toks, v], []⟩, { s with toks := s.toks + 1 }, .none, { s with heap := s.heap.update dx (Obj.putName "_initial_size" (PyData.keyHash w.params "_initial_size") (.str "_initial_size" (s.toks + 1)) v), toks := s.toks + 2 })])
    X' (told1 hx told0) (fmc ⟨fun _ => X.keeps U1.keep, fun A R q => ?_⟩ (List.forall_mem_nil _)) (h _ U1 U2 (Heap.SameBut.update ..)) (by kernel_rfl)
  · refine codeAny_call_builtin_at (plainId_quiet (by decide +kernel) _) PySem.F.store_object.entry (run_ev1 (a := ()) X' hx (s' := { s with toks := s.toks + 1 }) ?_ (by kernel_rfl))
    exact run_evs X' (told1 hx (told1 hx (told1 hx (told1 D.1 (toldU D.1 hk (told1 D' told0)))))) (List.forall_mem_nil _) q hev
end
section
open PySem.Builtin
section
variable {prog : Program} {w : World} {A : Around} {E : Value → Shared → Prop} {s : Shared} {K : Frag} {x C L f : Addr} {h₀ : Heap} {m : Str → Option Value} {ox : Obj} {od : Option Obj}
/-- the truth of an object whose class has a def __len__ and no __bool__ -/
theorem truthy_lenK {Q : Bool → Shared → Prop} (X : K.In s.heap) (I : InstAt s.heap x ox C od) (hs : findIn K (.ref C) "__bool__" = some none) (hl : findIn K (.ref C) "__len__" = some (some (.ref f))) (hf : isFn K (.ref f) = true)
    (h : wpAny (model prog w) A.in1 (call (.ref f) [.ref x]) (W.LenBack (fun v s' => ∃ n t, v = .int n t ∧ Q (n != 0) s')) E s) : wpAny (model prog w) A (truthy (.ref x)) Q E s := by
  have key : wpAny (model prog w) A (runValue (.builtin "len" ⟨[.ref x], []⟩)) (fun v s' => ∃ n t, v = .int n t ∧ Q (n != 0) s') E s := by
    refine wpAny_runValue (codeAny_builtin entry_len ?_)
    rw [Around.under_plainId plain_len _]
    unfold Builtin.«len»
    refine wpAny_bind (m := oneArg "len" _) (wpAny_pure ?_)
    refine wpAny_bind (m := callSpecial? (.ref x) (Str.ofString "__len__")) (special_fn X I hl (beq_iff_eq.mp hf) (wpAny_mono h (fun r s' hr => ?_) fun _ _ y => y))
    cases r <;> first | exact hr.elim | skip
    rename_i n u
    obtain ⟨⟨h0, h1⟩, hq⟩ := hr
    refine wpAny_bind (wpAny_holding (wpAny_pure ?_))
    refine wpAny_bind (wpAny_letGo ?_)
    show wpAny _ _ (if n < 0 then _ else _) _ _ _
    rw [if_neg (by omega)]
    show wpAny _ _ (if n ≥ 2 ^ 63 then _ else _) _ _ _
    rw [if_neg (by omega)]
    exact wpAny_bind (wpAny_mkInt (wpAny_pure hq))
  unfold truthy
  refine wpAny_bind (m := callSpecial? (.ref x) (Str.ofString "__bool__")) (wpAny_bind (wpAny_bind (I.type.here ((looks_findIn X hs).here (wpAny_pure ?_)))))
  refine wpAny_bind (wpAny_bind (I.type.here ((looks_findIn X hl).here ?_)))
  exact wpAny_bind (wpAny_mono key (fun r s' h' => by obtain ⟨n, t, rfl, hq⟩ := h'; exact wpAny_pure hq) fun _ _ e => e)
end
end
section
theorem entry_wget : entryFor table "wrapper_descriptor.__get__" = some Builtin.«wrapper_descriptor.__get__» := entryFor_of_tree (by kernel_rfl)
section
variable {w : World} {A : Around} {s : Shared} {Q : Value → Shared → Prop} {E : Value → Shared → Prop} {x dx : Addr} {its : Array Value} {n : Nat} (X : (Mine.hd.heap_1 w.params).In s.heap) (hx : s.heap.get? x = some ⟨.ref 195, some dx, .seq its n, #[]⟩)
include X hx
theorem bindLen (h : ObjEnd' s { cls := .type "method-wrapper", data := .fields #[.builtin "list.__len__", .ref x] } Q) : wpAny (model PySem.Challenge.rw_ik0127_01.row.prog w) A (call (.builtin "wrapper_descriptor.__get__") [.builtin "list.__len__", .ref x, .ref 195]) Q E s := by
  refine wpAny_call (codeAny_call_builtin_at (plainId_quiet (by decide +kernel) _) entry_wget (run_ev (a := ()) (s' := s) X ?_ (by kernel_rfl)))
  exact run_ev1 (a := .done (.ret (.ref s.heap.objs.size))) X hx (h.new (tk := s.toks) rfl) (by kernel_rfl)
theorem bindPop (h : ObjEnd' s { cls := .type "builtin_function_or_method", data := .fields #[.builtin "list.pop", .ref x] } Q) : wpAny (model PySem.Challenge.rw_ik0127_01.row.prog w) A (call (.builtin "method_descriptor.__get__") [.builtin "list.pop", .ref x, .ref 195]) Q E s := by
  refine wpAny_call (codeAny_call_builtin_at (plainId_quiet (by decide +kernel) _) entry_mget (run_ev (a := ()) (s' := s) X ?_ (by kernel_rfl)))
  exact run_ev1 (a := .done (.ret (.ref s.heap.objs.size))) X hx (h.new (tk := s.toks) rfl) (by kernel_rfl)
theorem bindInit (h : ObjEnd' s { cls := .type "method-wrapper", data := .fields #[.builtin "list.__init__", .ref x] } Q) : wpAny (model PySem.Challenge.rw_ik0127_01.row.prog w) A (call (.builtin "wrapper_descriptor.__get__") [.builtin "list.__init__", .ref x, .ref 195]) Q E s := by
  refine wpAny_call (codeAny_call_builtin_at (plainId_quiet (by decide +kernel) _) entry_wget (run_ev (a := ()) (s' := s) X ?_ (by kernel_rfl)))
  exact run_ev1 (a := .done (.ret (.ref s.heap.objs.size))) X hx (h.new (tk := s.toks) rfl) (by kernel_rfl)
end
section
variable {prog : Program} {w : World} {A : Around} {E : Value → Shared → Prop} {h : Heap} {g : Array GenState} {d : Drawn} {t : Nat} {os : OsState}
/-- super(): a member that is a built-in of a base class -/
theorem super_ga_b {so D x C : Addr} {id T gid : String} {l₀ l : List Value} {K : Frag} {name : Str} {tk : Tok} {Q : PySem.Fin → Shared → Prop}
    (hso : h.get? so = some { cls := .type "super", dict := none, data := .fields #[.ref D, .ref x, .ref C], slots := #[] }) (hno : Looks (model prog w) h (opaqueClassAbove (.ref C)) none)
    (hC : Looks (model prog w) h (mroOf (.ref C)) l₀) (hl : (l₀.dropWhile (· != .ref D)).drop 1 = l) (X : K.In h) (hf : alongIn K name l = some (some (.builtin id)))
    (hT : ∀ A Q E s, Q (.type T) s → wpAny (model prog w) A (typeOf (.builtin id)) Q E s) (hg : typeLookup (.type T) "__get__" = pure (some (.builtin gid))) (hxC : x ≠ C) (hn : (name == ("__class__" : Str)) = false)
    (hb : wpAny (model prog w) A (call (.builtin gid) [.builtin id, .ref x, .ref C]) (fun v s' => Q (.done (.ret v)) s') E ⟨h, g, d, t, os⟩) :
    wpAny (model prog w) A (Builtin.«super.__getattribute__» ⟨[.ref so, .str name tk], []⟩) Q E ⟨h, g, d, t, os⟩ := by
  have hne : (Value.ref x == Value.ref C) = false := by simp [hxC]
  have hdt : ({ cls := .type "super", dict := none, data := .fields #[.ref D, .ref x, .ref C], slots := #[] } : Obj).data = .fields #[.ref D, .ref x, .ref C] := rfl
  have f0 : (#[.ref D, .ref x, .ref C] : Array Value)[0]? = some (.ref D) := rfl
  have f1 : (#[.ref D, .ref x, .ref C] : Array Value)[1]? = some (.ref x) := rfl
  have f2 : (#[.ref D, .ref x, .ref C] : Array Value)[2]? = some (.ref C) := rfl
  delta Builtin.«super.__getattribute__»
  repeat (first
    | (with_reducible refine wpAny_field hso hdt f0 ?_) | (with_reducible refine wpAny_field hso hdt f1 ?_) | (with_reducible refine wpAny_field hso hdt f2 ?_)
    | (with_reducible refine ks_wpAny_notOpaque hno ?_)
    | (with_reducible refine Looks.at hC ?_; rw [hl])
    | (refine ks_forIn_along X (fun _ _ => rfl) rfl ?_ hf)
    | (with_reducible refine hT _ _ _ _ ?_)
    | (with_reducible refine wpAny_of_eq hg ?_)
    | (with_reducible refine wpAny_mono hb (fun v s' q => ?_) (fun _ _ q => q))
    | (simp only [hn, hne, Bool.or_false, Bool.false_eq_true, if_false])
    | wp_step
    | dsimp only)
  all_goals exact q
end
section
variable {prog : Program} {w : World} {A : Around} {E : Value → Shared → Prop} {s : Shared} {K : Frag} {h₀ : Heap} {L : Addr} {m : Str → Option Value} {news : List (Addr × Obj)}
theorem super_method {so D x C : Addr} {ox : Obj} {odx : Option Obj} {id T gid : String} {name : Str} {pl : Sem Bool} {o' : Obj} {Q : Value × List Value → Shared → Prop} (F : Fr h₀ L s.heap m) (X₀ : K.In h₀) (N : News h₀ L s.heap news) (hso : (so, ks_superObj D x C) ∈ news) (I : InstAt s.heap x ox C odx)
    (ho : nsIn K cStatics "thirdparty.any" = some none) (hm : ks_superIn K C D name = some (some (.builtin id))) (hT : ∀ A Q E s, Q (.type T) s → wpAny (model prog w) A (typeOf (.builtin id)) Q E s) (hg : typeLookup (.type T) "__get__" = pure (some (.builtin gid))) (hn : (name == ("__class__" : Str)) = false)
    (hb : ∀ A Q E (s' : Shared), s'.heap = s.heap → ObjEnd' s' o' Q → wpAny (model prog w) A (call (.builtin gid) [.builtin id, .ref x, .ref C]) Q E s')
    (h : ∀ q h' tk, Fr h₀ L h' m → News h₀ L h' ((q, o') :: news) → s.heap.get? q = none → (∀ b o, s.heap.get? b = some o → h'.get? b = some o) → Q (.ref q, []) { s with heap := h', toks := tk }) : wpAny (model prog w) A (getMethod (.ref so) name pl) Q E s := by
  have X : K.In s.heap := X₀.keeps F.keep
  obtain ⟨hh, g, d, t, os⟩ := s
  cases hc : clsIn K C with
  | none => delta ks_superIn at hm; rw [hc] at hm; cases hm
  | some cd =>
    delta ks_superIn at hm
    rw [hc] at hm
    have hsoo := (N _ hso).1
    have hT' : ∀ t', (⟨hh, g, d, t', os⟩ : Shared).TypeIs (.ref so) "super" := fun _ => ⟨_, hsoo, rfl⟩
    have hlk := PySem.F.ks_slot_super_ga.lookup
    delta getMethod
    refine wpAny_bind (wpAny_specialOf (hT' _) hlk ?_)
    show wpAny _ _ (if (Manifest.canonical "super.__getattribute__" != "object.__getattribute__") = true then _ else _) _ _ _
    rw [if_pos PySem.F.ks_canon_super_ga]
    delta getAttr getAttrBy
    refine wpAny_bind (wpAny_bind (wpAny_mkText (wpAny_holding (wpAny_bind (wpAny_typeOf (hT' _) (wpAny_bind (wpAny_of_eq hlk ?_)))))))
    show wpAny _ _ (getAttrByItsOwn (.ref so) (.str name t) (.type "super") (.builtin "super.__getattribute__") true false) _ _ _
    delta getAttrByItsOwn hookBefore callGetattribute boundAndCalled
    refine wpAny_bind (wpAny_of_eq (show (if onTheHeap (.type "super") then typeLookup (.type "super") "__getattr__" else pure none) = pure none from rfl) ?_)
    refine wpAny_bind (wpAny_attempt (wpAny_holding ?_))
    show wpAny _ _ (bindSpecial (.builtin "super.__getattribute__") (.ref so) >>= _) _ _ _
    refine wpAny_bind (wpAny_of_eq (PySem.F.ks_slot_super_ga.bind _) ?_)
    refine wpAny_mono (Q := fun v s' => ∃ q h' tk, v = .ref q ∧ s' = ⟨h', g, d, tk, os⟩ ∧ (∀ b o, hh.get? b = some o → h'.get? b = some o) ∧ h'.get? q = some o' ∧ hh.get? q = none) (E := fun _ _ => False)
      (wpAny_call_entry PySem.F.ks_slot_super_ga (hT' _) PySem.F.ks_entry_super_ga (super_ga_b hsoo (looks_opaque X ho) (l₀ := cd.mro) (fun A Q E s k q => wpAny_bind ((looks_clsIn X hc) A _ E s k (wpAny_pure q))) rfl X hm hT hg (ks_ne X I hc) hn
        (hb _ _ _ _ rfl (fun q h' tk k1 k2 k3 => ⟨_, rfl, q, h', tk, rfl, rfl, k1, k2, k3⟩))) (PySem.F.ks_gaArgs_super _ _)) (fun v s' hv => ?_) fun _ _ z => z.elim
    obtain ⟨q, h', tk, rfl, rfl, k1, k2, k3⟩ := hv
    have F' : Fr h₀ L h' m := F.keeps k1
    have N' : News h₀ L h' ((q, o') :: news) := fun p hp => by
      rcases List.mem_cons.mp hp with rfl | hp
      · refine ⟨k2, fun e => ?_, ?_⟩
        · obtain ⟨oL, _, _, hL, _⟩ := F.ns
          simp only at e hL
          rw [e, hL] at k3; cases k3
        · cases z : h₀.get? q with
          | none => rfl
          | some o => have := F.keep _ _ z; simp only at this; rw [k3] at this; cases this
      · exact (N.grown k1) p hp
    exact wpAny_pure (wpAny_pure (h q h' tk F' N' k3 k1))
end
end
section
noncomputable def IntEnd (s : Shared) (v : Int) (Q : Value → Shared → Prop) : Prop := ∀ t h tk, (∀ b x, s.heap.get? b = some x → h.get? b = some x) → Q (.int v t) { s with heap := h, toks := tk }
theorem callLen {w : World} {A : Around} {s : Shared} {Q : Value → Shared → Prop} {E : Value → Shared → Prop} {q x dx : Addr} {its : Array Value} {n : Nat} (X : (Mine.hd.heap_1 w.params).In s.heap)
    (hq : s.heap.get? q = some ⟨.type "method-wrapper", none, .fields #[.builtin "list.__len__", .ref x], #[]⟩) (hx : s.heap.get? x = some ⟨.ref 195, some dx, .seq its n, #[]⟩)
    (h : IntEnd s its.size Q) : wpAny (model PySem.Challenge.rw_ik0127_01.row.prog w) A (call (.ref q) []) Q E s := by
  refine wpAny_call (codeAny_of_tree ?_)
  show wpAny _ _ (callAny (.ref q) _) _ _ _
  refine run_ev1 (a := .again (.builtin "list.__len__" ⟨[.ref x], []⟩)) (s' := s) X hq ?_ (by kernel_rfl)
  refine ⟨plainId_quiet (by decide +kernel) _, codeAny_builtin F.entry_list_len ?_⟩
  exact run_ev1 (a := .done (.ret (.int its.size s.toks))) (s' := { s with toks := s.toks + 1 }) X hx (h s.toks s.heap _ fun _ _ e => e) (by kernel_rfl)
section
variable {prog : Program} {w : World} {A : Around} {E : Value → Shared → Prop} {s : Shared} {b : Addr}
theorem callWith_0 {pos : Pos} {env : Env} {cls : String} {vs : Array Value} {Q : Value → Shared → Prop} (hb : s.heap.get? b = some ⟨.type cls, none, .fields vs, #[]⟩) (hcl : cls = "method-wrapper" ∨ cls = "builtin_function_or_method")
    (h : wpAny (model prog w) A (call (.ref b) []) Q E s) : wpAny (model prog w) A (callWith pos (.ref b) [] (backTo pos (starEach [] env)) []) Q E s := by
  have hkeep : ∀ P : Shared → Prop, P s → wpAny (model prog w) A (keeperOf (.ref b)) (fun k s₂ => KM k (P s₂)) E s := fun P hP => by
    unfold keeperOf
    refine wpAny_bind (wpAny_load hb ?_)
    rcases hcl with rfl | rfl <;> exact wpAny_pure ⟨rfl, hP⟩
  unfold callWith
  refine wpAny_bind (wpAny_holding (wpAny_mono (PyProof.Rows.evalArgs_nil3 (Q := fun (a : Args) s₁ => wpAny (model prog w) A (keeperOf (.ref b)) (fun k s₂ => KM k (wpAny (model prog w) A (call (.ref b) a.pos a.kw) Q E s₂)) E s₁) (hkeep (fun s₂ => wpAny (model prog w) A (call (.ref b) []) Q E s₂) h)) (fun a s₁ h₁ => wpAny_bind (wpAny_standAt ?_)) fun _ _ x => x))
  have hp : (backTo pos (starEach [] env)).any (·.1) = false := by rfl
  simp -iota only [hp, List.any_nil, Bool.or_false]
  refine wpAny_bind (wpAny_mono h₁ (fun k s₂ hk => ?_) fun _ _ x => x)
  obtain ⟨rfl, hc⟩ := hk
  exact wpAny_bind (wpAny_mono hc (fun r s₂ hr => wpAny_bind (wpAny_holding (wpAny_point (wpAny_pure hr)))) fun _ _ x => x)
end
end
section
section
variable {w : World} {A : Around} {s : Shared} {x dx : Addr} {its : Array Value} {n : Nat} {od : Obj}
theorem pop_at (n : Nat) : (0 ≤ -1 + ((n : Int) + 1) ∧ -1 + ((n : Int) + 1) < (n : Int) + 1) ∧ (-1 + ((n : Int) + 1)).toNat = n := by
  rw [Int.add_comm, show (n : Int) + 1 + -1 = n from Int.add_neg_cancel_right _ 1]
  exact ⟨⟨az n, Int.lt_add_one_of_le (Int.le_refl _)⟩, rfl⟩
theorem checkBound_pop {Q : Unit → Shared → Prop} {E : Value → Shared → Prop} (X : (Mine.hd.heap_1 w.params).In s.heap) (I : InstAt s.heap x (accObj dx its n) 195 (some od)) (h : Q () s) :
    wpAny (model PySem.Challenge.rw_ik0127_01.row.prog w) A (checkBoundCall "list.pop" ⟨[.ref x], []⟩) Q E s :=
  run_evl 3 [some (accObj dx its n), none, some (accObj dx its n), some (accObj dx its n)] (a := ()) X I.at_ h (by kernel_rfl)
theorem callPop {Q : Value → Shared → Prop} {E : Value → Shared → Prop} {q : Addr} {ys : List Value} {v : Value} (X : (Mine.hd.heap_1 w.params).In s.heap) (I : InstAt s.heap x (accObj dx (List.toArray (ys ++ [v])) n) 195 (some od)) (hz : ys.length ≤ 100)
    (hq : s.heap.get? q = some ⟨.type "builtin_function_or_method", none, .fields #[.builtin "list.pop", .ref x], #[]⟩)
    (h : ∀ h' n', Heap.SameBut x s.heap h' → h'.get? x = some (accObj dx ys.toArray n') → Q v { s with heap := h' }) : wpAny (model PySem.Challenge.rw_ik0127_01.row.prog w) A (call (.ref q) []) Q E s := by
  refine wpAny_call (codeAny_of_tree ?_)
  show wpAny _ _ (callAny (.ref q) _) _ _ _
  refine wpAny_bind (wpAny_load hq ?_)
  refine wpAny_bind (checkBound_pop X I ?_)
  refine wpAny_pure (And.intro (plainId_quiet (by decide +kernel) _) (codeAny_builtin F.entry_list_pop ?_))
  have hl := I.at_
  unfold Builtin.«list.pop»
  refine wpAny_bind (wpAny_of_eq (show selfAndSome "list.pop" "pop" 0 1 ⟨[.ref x], []⟩ = pure (.ref x, []) from rfl) ?_)
  dsimp only
  refine wpAny_bind (wpAny_pure ?_)
  rw [if_neg (by decide)]
  unfold Builtin.List.listItems
  refine wpAny_bind (wpAny_bind (wpAny_seqItems hl rfl (wpAny_pure ?_)))
  have he : (List.toArray (ys ++ [v])).isEmpty = false := by simp
  rw [he]
  rw [if_neg (by decide)]
  have e : (seqIndex? (-1) (List.toArray (ys ++ [v])).size).bind (fun k => (List.toArray (ys ++ [v]))[k]?.map (k, ·)) = some (ys.length, v) := by
    have e1 : seqIndex? (-1) (List.toArray (ys ++ [v])).size = some ys.length := by
      unfold seqIndex?
      simp
      exact pop_at _
    rw [e1]
    simp
  rw [e]
  dsimp only
  have er : (ys ++ [v]).eraseIdx ys.length = ys := by rw [List.eraseIdx_append_of_length_le (Nat.le_refl _)]; simp
  unfold Builtin.List.listUpdate
  obtain ⟨n', e9⟩ : ∃ n', Obj.mapSeq (·.eraseIdxIfInBounds ys.length) (accObj dx (List.toArray (ys ++ [v])) n) = accObj dx ys.toArray n' := by
    have e8 : (List.toArray (ys ++ [v])).eraseIdxIfInBounds ys.length = ys.toArray := by simp [er]
    unfold Obj.mapSeq
    dsimp only
    rw [e8]
    exact ⟨_, rfl⟩
  refine wpAny_bind (wpAny_updateSeq hl rfl (wpAny_pure (h _ n' (Heap.SameBut.update ..) ?_)) (by rw [sizeLine_eq]; simp; omega) (by rw [sizeLine_eq]; simp [er]; omega))
  rw [Heap.get?_update_self _ hl (by rw [e9]; rfl), e9]
end
end
section
theorem anyM_no {M : Model} {h : Heap} {f : String → Sem Bool} : ∀ {l : List String}, (∀ n ∈ l, Looks M h (f n) false) → Looks M h (l.anyM f) false
  | [], _ => fun A Q E s k q => wpAny_pure q
  | n :: l, hl => fun A Q E s k q => by
    show wpAny M A (f n >>= fun b => match b with | true => pure true | false => l.anyM f) Q E s
    exact wpAny_bind (hl n (.head _) A _ E s k (anyM_no (fun y hy => hl y (.tail _ hy)) A Q E s k q))
theorem body_getitem {prog : Program} {w : World} {A : Around} {E : Value → Shared → Prop} {s : Shared} {x : Addr} {o : Obj} {its : Array Value} {n : Nat} {k : Int} {u : Tok} {v : Value} {Q : PySem.Fin → Shared → Prop} (ho : s.heap.get? x = some o) (hd : o.data = .seq its n) (h0 : 0 ≤ k) (hx : its[k.toNat]? = some v) (hk : k ≤ 1000) (h : Q (.done (.ret v)) s) :
    wpAny (model prog w) A (Builtin.«list.__getitem__» ⟨[.ref x, .int k u], []⟩) Q E s := by
  have hfit : Builtin.List.listFitsIndex k = true := by simp [Builtin.List.listFitsIndex]; exact ⟨Int.le_trans (by decide) h0, Int.lt_of_le_of_lt hk (by decide)⟩
  show wpAny _ _ (Builtin.List.listSubscript? (.int k u) >>= _) _ _ s
  refine wpAny_bind (wpAny_listSubscript_int hfit ?_)
  obtain ⟨j, rfl⟩ := Int.eq_ofNat_of_zero_le h0
  have hx' : its[j]? = some v := hx
  show wpAny _ _ ((seqItemAt x j >>= fun r => pure (r.map (j, ·))) >>= _) _ _ s
  refine wpAny_bind (wpAny_bind (wpAny_seqItemAt ho hd (wpAny_pure ?_)))
  rw [hx']
  first
    | exact wpAny_bind (wpAny_pure (wpAny_pure h))
    | exact wpAny_pure h
theorem body_getslice {prog : Program} {w : World} {A : Around} {E : Value → Shared → Prop} {s : Shared} {x sl : Addr} {o : Obj} {its : Array Value} {n : Nat} {i : Int} {u : Tok} {Q : PySem.Fin → Shared → Prop} (ho : s.heap.get? x = some o) (hd : o.data = .seq its n) (hs : s.heap.IsSliceOf sl (.int i u) .none .none) (hz : its.size ≤ sizeLine)
    (h : Q (.done (.ret (.ref s.heap.objs.size))) { s with heap := s.heap.push { cls := .type "list", data := .seq (slicePick its (some i) none none) } }) : wpAny (model prog w) A (Builtin.«list.__getitem__» ⟨[.ref x, .ref sl], []⟩) Q E s := by
  obtain ⟨os, hos, hcs, hds⟩ := id hs
  have hTs : s.TypeIs (.ref sl) "slice" := ⟨os, hos, hcs⟩
  show wpAny _ _ (Builtin.List.listSubscript? (.ref sl) >>= _) _ _ s
  refine wpAny_bind ?_
  delta Builtin.List.listSubscript?
  refine wpAny_bind (wpAny_specialOf hTs slice_no_index ?_)
  simp -iota only [Option.isNone_none, if_true]
  refine wpAny_pure ?_
  show wpAny _ _ (typeOf (.ref sl) >>= _) _ _ s
  refine wpAny_bind (wpAny_typeOf hTs ?_)
  rw [if_neg (by decide), listSliceParts_eq]
  have hstep : ¬ ((rawPart (none : Option Int) == rawInt 0) = true) := Bool.false_ne_true
  refine wpAny_bind (wpAny_bind (wpAny_field hos hds (x := .none) rfl (wpAny_bind (wpAny_listPart .none ?_))))
  rw [if_neg hstep]
  refine wpAny_bind (wpAny_field hos hds (x := .int i u) rfl (wpAny_bind (wpAny_listPart (.int _ _) ?_)))
  refine wpAny_bind (wpAny_field hos hds (x := .none) rfl (wpAny_bind (wpAny_listPart .none (wpAny_pure ?_))))
  refine wpAny_bind (m := Builtin.List.listItems (.ref x)) ?_
  delta Builtin.List.listItems
  refine wpAny_bind (wpAny_seqItems ho hd (wpAny_pure ?_))
  refine wpAny_bind (wpAny_of_eq (sliceIndices_raw (some i) none none its.size (by simp)) ?_)
  exact wpAny_bind (wpAny_newObj_type (wpAny_pure h) (Nat.le_trans (slicePick_size_le its (some i) none none) hz))
section
variable {w : World} {A : Around} {E : Value → Shared → Prop} {s : Shared} {x dx : Addr} {its : Array Value} {n : Nat} {od : Obj}
theorem seqKey_acc {k : Value} {name : Str} {Q : Value → Shared → Prop} (X : (Mine.hd.heap_1 w.params).In s.heap) (I : InstAt s.heap x (accObj dx its n) 195 (some od)) (h : Q k s) :
    wpAny (model PySem.Challenge.rw_ik0127_01.row.prog w) A (sequenceKey (.ref x) k name) Q E s := by
  revert X; k_fill; intro X
  have L0 := I.type (M := model PySem.Challenge.rw_ik0127_01.row.prog w)
  have L1 : Looks (model PySem.Challenge.rw_ik0127_01.row.prog w) s.heap (seqItemTypes.anyM fun n => isSubtype (.ref 195) (.type n)) false := anyM_no fun n hn => by
    refine looks_mroIn X ?_
    delta seqItemTypes at hn
    simp -iota only [List.mem_cons, List.not_mem_nil, or_false] at hn
    rcases hn with rfl | rfl | rfl | rfl | rfl | rfl | rfl | rfl <;> rfl
  delta sequenceKey
  refine wpAny_bind (L0 _ _ _ s (fun _ _ e => e) ?_)
  dsimp only
  refine wpAny_bind (L1 _ _ _ s (fun _ _ e => e) ?_)
  rw [if_pos (by decide)]
  exact wpAny_pure h
theorem getCall_acc {k v : Value} {Q : Value → Shared → Prop} (X : (Mine.hd.heap_1 w.params).In s.heap) (I : InstAt s.heap x (accObj dx its n) 195 (some od))
    (h : wpAny (model PySem.Challenge.rw_ik0127_01.row.prog w) A (call (.builtin "list.__getitem__") [.ref x, k]) Q E s) : wpAny (model PySem.Challenge.rw_ik0127_01.row.prog w) A (getItem (.ref x) k) Q E s := by
  have L0 := I.type (M := model PySem.Challenge.rw_ik0127_01.row.prog w)
  have L2 : Looks (model PySem.Challenge.rw_ik0127_01.row.prog w) s.heap (typeLookup (.ref 195) "__getitem__") (some (.builtin "list.__getitem__")) := by
    revert X; k_fill; intro X
    exact looks_findIn X (by exact rfl)
  delta getItem
  refine wpAny_holding (wpAny_bind (seqKey_acc X I ?_))
  delta callSpecial? specialOf
  refine wpAny_bind (wpAny_bind (wpAny_bind (L0 _ _ _ s (fun _ _ e => e) (L2 _ _ _ s (fun _ _ e => e) ?_))))
  dsimp only
  refine wpAny_holding ?_
  rw [slot_list_getitem.bind]
  refine wpAny_bind (wpAny_pure ?_)
  exact wpAny_bind (wpAny_mono h (fun v s' q => wpAny_pure (wpAny_pure q)) fun _ _ q => q)
theorem item_acc {k : Int} {u : Tok} {v : Value} {Q : Value → Shared → Prop} (X : (Mine.hd.heap_1 w.params).In s.heap) (I : InstAt s.heap x (accObj dx its n) 195 (some od)) (h0 : 0 ≤ k) (hx : its[k.toNat]? = some v) (hk : k ≤ 1000) (h : Q v s) :
    wpAny (model PySem.Challenge.rw_ik0127_01.row.prog w) A (getItem (.ref x) (.int k u)) Q E s := by
  refine getCall_acc (v := v) X I ?_
  have hm : mroIn (Mine.hd.heap_1 w.params) 195 (.type "list") = some true := by rfl
  have hb : wpAny (model PySem.Challenge.rw_ik0127_01.row.prog w) A.in1 (Builtin.«list.__getitem__» ⟨[.ref x, .int k u], []⟩) (fun fin s' => ∃ v, fin = .done (.ret v) ∧ Q v s') E s := body_getitem I.at_ rfl h0 hx hk ⟨v, rfl, h⟩
  exact call_base X I hm (owner := "list") (n := "__getitem__") (by decide +kernel) (.inr (by rw [builtinKind_eq_fast]; kernel_rfl)) slot_list_getitem.plain entry_list_getitem (args_list_getitem _ _) hb
theorem slice_acc {sl : Addr} {i : Int} {u : Tok} {Q : Value → Shared → Prop} (X : (Mine.hd.heap_1 w.params).In s.heap) (I : InstAt s.heap x (accObj dx its n) 195 (some od)) (hs : s.heap.IsSliceOf sl (.int i u) .none .none) (hz : its.size ≤ sizeLine)
    (h : Q (.ref s.heap.objs.size) { s with heap := s.heap.push { cls := .type "list", data := .seq (slicePick its (some i) none none) } }) : wpAny (model PySem.Challenge.rw_ik0127_01.row.prog w) A (getItem (.ref x) (.ref sl)) Q E s := by
  refine getCall_acc (v := .none) X I ?_
  have hm : mroIn (Mine.hd.heap_1 w.params) 195 (.type "list") = some true := by rfl
  have hb : wpAny (model PySem.Challenge.rw_ik0127_01.row.prog w) A.in1 (Builtin.«list.__getitem__» ⟨[.ref x, .ref sl], []⟩) (fun fin s' => ∃ v, fin = .done (.ret v) ∧ Q v s') E s := body_getslice I.at_ rfl hs hz ⟨_, rfl, h⟩
  exact call_base X I hm (owner := "list") (n := "__getitem__") (by decide +kernel) (.inr (by rw [builtinKind_eq_fast]; kernel_rfl)) slot_list_getitem.plain entry_list_getitem (args_list_getitem _ _) hb
end
section
variable {w : World} {A : Around} {E : Value → Shared → Prop} {s : Shared} {x dx : Addr} {its : Array Value} {n : Nat} {od : Obj}
theorem tail_acc {value slice : Expr} {i : Value} {ops : List Value} {Q : Value → Shared → Prop} (X : (Mine.hd.heap_1 w.params).In s.heap) (I : InstAt s.heap x (accObj dx its n) 195 (some od)) (hg : wpAny (model PySem.Challenge.rw_ik0127_01.row.prog w) A (getItem (.ref x) i) Q E s)
    (hs : subscripted slice false (.ref x) i = operate ops (getItem (.ref x) i)) : wpAny (model PySem.Challenge.rw_ik0127_01.row.prog w) A (subscriptTail value slice (.ref x) i) Q E s := by
  have L0 := I.type (M := model PySem.Challenge.rw_ik0127_01.row.prog w)
  have L2 : Looks (model PySem.Challenge.rw_ik0127_01.row.prog w) s.heap (typeLookup (.ref 195) "__getitem__") (some (.builtin "list.__getitem__")) := by
    revert X; k_fill; intro X
    exact looks_findIn X (by exact rfl)
  have fin : wpAny (model PySem.Challenge.rw_ik0127_01.row.prog w) A (subscripted slice false (.ref x) i) (fun r s₃ => wpAny (model PySem.Challenge.rw_ik0127_01.row.prog w) A (letTemporaryGo value (.ref x) r >>= fun _ => pure r) Q E s₃) E s := by
    rw [hs]
    exact wpAny_operating (wpAny_mono hg (fun r s₃ h₃ => wpAny_bind (wpAny_letTemporaryGo (wpAny_pure h₃))) fun _ _ x => x)
  delta subscriptTail getitemInPython
  refine wpAny_bind (wpAny_bind (wpAny_bind (L0.here (L2.here ?_))))
  dsimp only
  exact wpAny_pure (wpAny_bind fin)
end
end
section
theorem body_setslice {prog : Program} {w : World} {A : Around} {E : Value → Shared → Prop} {s : Shared} {x l sl : Addr} {o : Obj} {its new : Array Value} {n : Nat} {vl : Value} {lo : Option Int} {Q : PySem.Fin → Shared → Prop} (ho : s.heap.get? x = some o) (hd : o.data = .seq its n) (hl : s.heap.IsList l new) (hxl : x ≠ l)
    (hs : s.heap.IsSliceOf sl vl .none .none) (pl : IsPart vl lo) (hz : its.size ≤ 1000) (hz2 : new.size ≤ 1000)
    (h : ∀ h', h' = s.heap.update x (Obj.mapSeq fun xs => xs.extract 0 (sliceBounds lo none none its.size).1.toNat ++ new ++ xs.extract (max (sliceBounds lo none none its.size).1 (sliceBounds lo none none its.size).2.1).toNat xs.size) → Q (.done (.ret .none)) { s with heap := h' })
    (hfit : (its.extract 0 (sliceBounds lo none none its.size).1.toNat ++ new ++ its.extract (max (sliceBounds lo none none its.size).1 (sliceBounds lo none none its.size).2.1).toNat its.size).size ≤ sizeLine + 1) :
    wpAny (model prog w) A (Builtin.«list.__setitem__» ⟨[.ref x, .ref sl, .ref l], []⟩) Q E s := by
  obtain ⟨os, hos, hcs, hds⟩ := id hs
  obtain ⟨ol, hol, _, nl, hdl⟩ := id hl
  have hTs : s.TypeIs (.ref sl) "slice" := ⟨os, hos, hcs⟩
  show wpAny _ _ (Builtin.List.listSubscript? (.ref sl) >>= _) _ _ s
  refine wpAny_bind ?_
  delta Builtin.List.listSubscript?
  refine wpAny_bind (wpAny_specialOf hTs slice_no_index ?_)
  simp -iota only [Option.isNone_none, if_true]
  refine wpAny_pure ?_
  show wpAny _ _ (typeOf (.ref sl) >>= _) _ _ s
  refine wpAny_bind (wpAny_typeOf hTs ?_)
  rw [if_neg (by decide), listSliceParts_eq]
  have hstep : ¬ ((rawPart (none : Option Int) == rawInt 0) = true) := Bool.false_ne_true
  refine wpAny_bind (wpAny_bind (wpAny_field hos hds (x := .none) rfl (wpAny_bind (wpAny_listPart .none ?_))))
  rw [if_neg hstep]
  refine wpAny_bind (wpAny_field hos hds (x := vl) rfl (wpAny_bind (wpAny_listPart pl ?_)))
  refine wpAny_bind (wpAny_field hos hds (x := .none) rfl (wpAny_bind (wpAny_listPart .none (wpAny_pure ?_))))
  have hne : Builtin.List.listSameRef (.ref x) (.ref l) = false := by simp [Builtin.List.listSameRef, hxl]
  dsimp only
  rw [hne]
  delta Builtin.List.listAllItems
  rw [if_neg (by decide)]
  refine wpAny_bind (wpAny_bind (wpAny_typeOf hl.typeIs ?_))
  rw [if_pos (by decide)]
  delta Builtin.List.listItems
  refine wpAny_bind (wpAny_seqItems hol hdl (wpAny_pure ?_))
  refine wpAny_bind (wpAny_bind (wpAny_seqItems ho hd (wpAny_pure ?_)))
  refine wpAny_bind (wpAny_of_eq (sliceIndices_raw lo none none its.size (by simp)) ?_)
  have hst : (sliceBounds lo none none its.size).2.2 = 1 := rfl
  rw [if_pos (by rw [hst]; rfl)]
  refine wpAny_bind (wpAny_rule ?_)
  rw [if_neg (by simp [Builtin.List.listTooLong, sizeLine]; exact Nat.le_trans (Nat.add_le_add hz hz2) (by decide))]
  delta Builtin.List.listUpdate
  refine wpAny_bind (wpAny_updateSeq ho hd ?_ (by rw [sizeLine_eq]; exact Nat.le_trans hz (by decide)) hfit)
  exact wpAny_bind (wpAny_letGo (wpAny_pure (h _ rfl)))
section
variable {w : World} {A : Around} {E : Value → Shared → Prop} {s : Shared} {x dx : Addr} {its : Array Value} {n : Nat} {od : Obj}
theorem setCall_acc {k v : Value} {Q : Unit → Shared → Prop} (X : (Mine.hd.heap_1 w.params).In s.heap) (I : InstAt s.heap x (accObj dx its n) 195 (some od))
    (h : wpAny (model PySem.Challenge.rw_ik0127_01.row.prog w) A (call (.builtin "list.__setitem__") [.ref x, k, v]) (fun _ s' => Q () s') E s) : wpAny (model PySem.Challenge.rw_ik0127_01.row.prog w) A (setItem (.ref x) k v) Q E s := by
  have L0 := I.type (M := model PySem.Challenge.rw_ik0127_01.row.prog w)
  have L2 : Looks (model PySem.Challenge.rw_ik0127_01.row.prog w) s.heap (typeLookup (.ref 195) "__setitem__") (some (.builtin "list.__setitem__")) := by
    revert X; k_fill; intro X
    exact looks_findIn X (by exact rfl)
  delta setItem
  refine wpAny_holding (wpAny_bind (seqKey_acc X I ?_))
  delta callSpecial? specialOf
  refine wpAny_bind (wpAny_bind (wpAny_bind (L0 _ _ _ s (fun _ _ e => e) (L2 _ _ _ s (fun _ _ e => e) ?_))))
  dsimp only
  refine wpAny_holding ?_
  rw [F.slot_list_setitem.bind]
  refine wpAny_bind (wpAny_pure ?_)
  exact wpAny_bind (wpAny_mono h (fun v s' q => wpAny_pure (wpAny_pure q)) fun _ _ q => q)
theorem setslice_acc {l sl : Addr} {new : Array Value} {vl : Value} {lo : Option Int} {Q : Unit → Shared → Prop} (X : (Mine.hd.heap_1 w.params).In s.heap) (I : InstAt s.heap x (accObj dx its n) 195 (some od)) (hl : s.heap.IsList l new) (hxl : x ≠ l)
    (hs : s.heap.IsSliceOf sl vl .none .none) (pl : IsPart vl lo) (hz : its.size ≤ 1000) (hz2 : new.size ≤ 1000)
    (hfit : (its.extract 0 (sliceBounds lo none none its.size).1.toNat ++ new ++ its.extract (max (sliceBounds lo none none its.size).1 (sliceBounds lo none none its.size).2.1).toNat its.size).size ≤ sizeLine + 1)
    (h : ∀ h' n', Heap.SameBut x s.heap h' → h'.get? x = some (accObj dx (its.extract 0 (sliceBounds lo none none its.size).1.toNat ++ new ++ its.extract (max (sliceBounds lo none none its.size).1 (sliceBounds lo none none its.size).2.1).toNat its.size) n') → Q () { s with heap := h' }) :
    wpAny (model PySem.Challenge.rw_ik0127_01.row.prog w) A (setItem (.ref x) (.ref sl) (.ref l)) Q E s := by
  refine setCall_acc X I ?_
  have hm : mroIn (Mine.hd.heap_1 w.params) 195 (.type "list") = some true := by rfl
  have hb : wpAny (model PySem.Challenge.rw_ik0127_01.row.prog w) A.in1 (Builtin.«list.__setitem__» ⟨[.ref x, .ref sl, .ref l], []⟩) (fun fin s' => ∃ v, fin = .done (.ret v) ∧ Q () s') E s := by
    refine body_setslice I.at_ rfl hl hxl hs pl hz hz2 (fun h' e => ⟨_, rfl, ?_⟩) hfit
    subst e
    exact h _ _ (Heap.SameBut.update ..) ((Heap.get?_update_self _ I.at_ (by rfl)).trans rfl)
  exact call_base X I hm (owner := "list") (n := "__setitem__") (by decide +kernel) (.inl (by rw [builtinKind_eq_fast]; kernel_rfl)) F.slot_list_setitem.plain F.entry_list_setitem (F.args_list_setitem_3 _ _ _) hb
end
end
section
theorem newAcc {w : World} {A : Around} {s : Shared} {Q : Value → Shared → Prop} {E : Value → Shared → Prop} {v : Value} (X : (Mine.hd.heap_1 w.params).In s.heap)
    (h : ∀ x dx h tk, (∀ b o, s.heap.get? b = some o → h.get? b = some o) → h.get? x = some (accObj dx #[] 0) → h.get? dx = some (dictOf [] 0) → s.heap.get? x = none → s.heap.get? dx = none → Q (.ref x) { s with heap := h, toks := tk }) : wpAny (model PySem.Challenge.rw_ik0127_01.row.prog w) A (call (.builtin "list.__new__") [.ref 195, v]) Q E s := by
  refine wpAny_call (codeAny_call_builtin_code (plainId_quiet PySem.F.plain_list_new _) ((Looks.of_peek X (r := ()) (by kernel_rfl)).here ?_))
  refine codeAny_builtin_stack PySem.F.entry_list_new rfl fun p st => ?_
  dsimp only
  rw [owner_list_new]
  exact run_ev X (a := .done (.ret (.ref (s.heap.push emptyDict).objs.size))) (h _ s.heap.objs.size _ s.toks (fun b o e => Heap.get?_push_of_some _ (Heap.get?_push_of_some _ e)) (Heap.get?_push_at rfl rfl) (Heap.get?_push_of_some _ (Heap.get?_push_at rfl rfl))
    (Heap.get?_none_of_le (by rw [Heap.size_push]; exact Nat.le_succ _)) (Heap.get?_none_of_le (Nat.le_refl _))) (by kernel_rfl)
theorem make_acc {w : World} {A : Around} {s : Shared} {R : Result → Shared → Prop} {v : Value} {fI : Addr} (X : (Mine.hd.heap_1 w.params).In s.heap)
    (hi : findIn (Mine.hd.heap_1 w.params) (.ref 195) "__init__" = some (some (.ref fI))) (hf : typeIn (Mine.hd.heap_1 w.params) (.ref fI) = some (.type "function"))
    (h : ∀ x dx h' tk, (∀ b o, s.heap.get? b = some o → h'.get? b = some o) → h'.get? x = some (accObj dx #[] 0) → h'.get? dx = some (dictOf [] 0) → s.heap.get? x = none → s.heap.get? dx = none →
      codeAny (model PySem.Challenge.rw_ik0127_01.row.prog w) (A.under (.builtin "type.__call__" ⟨.ref 195 :: [v], []⟩)) (.call (.ref fI) ⟨.ref x :: [v], []⟩) (InitBack x R) { s with heap := h', toks := tk }) :
    codeAny (model PySem.Challenge.rw_ik0127_01.row.prog w) A (.call (.ref 195) ⟨[v], []⟩) R s := by
  have hi' := looks_findIn (M := model PySem.Challenge.rw_ik0127_01.row.prog w) X hi
  have hb := fun self => bind_fn (M := model PySem.Challenge.rw_ik0127_01.row.prog w) X (f := fI) self hf
  have hC : ∃ oc od cd sl, s.heap.get? 195 = some ⟨oc, od, .cls cd, sl⟩ ∧ cd.mro.isEmpty = false := by
    revert X; k_fill; intro X
    exact ⟨_, _, _, _, X 195 _ rfl, rfl⟩
  obtain ⟨oc, od, cd, sl, hC, e4⟩ := hC
  have made : Looks (model PySem.Challenge.rw_ik0127_01.row.prog w) s.heap (Bind.madeBy (.ref 195)) (some "list.__new__") := .of_peek X (by kernel_rfl)
  have self : Looks (model PySem.Challenge.rw_ik0127_01.row.prog w) s.heap (isSubtype (.ref 195) (.ref 195)) true := .of_peek X (by kernel_rfl)
  have call : Looks (model PySem.Challenge.rw_ik0127_01.row.prog w) s.heap (specialOf (.ref 195) "__call__") (some (.builtin "type.__call__")) := .of_peek X (by kernel_rfl)
  have typ : Looks (model PySem.Challenge.rw_ik0127_01.row.prog w) s.heap (isInstance (.ref 195) (.type "type")) true := .of_peek X (by kernel_rfl)
  refine codeAny_of_tree ?_
  show wpAny _ _ (callAny (.ref 195) _) _ _ _
  refine nd_load hC ?_
  show wpAny _ _ (callAny.viaDunder (.ref 195) _) _ _ _
  delta callAny.viaDunder
  refine wpAny_bind (call.at ?_)
  dsimp only
  rw [tc_bind]
  refine wpAny_bind (wpAny_pure (wpAny_bind (wpAny_pure ?_)))
  refine wpAny_pure (a := Fin.again (.call (.builtin "type.__call__") ⟨.ref 195 :: [v], []⟩)) (And.intro rfl ?_)
  refine codeAny_call_builtin_at (Code.quiet_builtin _ (by decide +kernel)) entry_typeCall (check_slot tc_kind tc_split typ (tc_args _ _ _) ?_)
  delta Builtin.«type.__call__»
  have hm : Looks (model PySem.Challenge.rw_ik0127_01.row.prog w) s.heap (mroOf (.ref 195)) cd.mro := ((Looks.ld (part := none) hC).andThen .now).andThen .now
  repeat (first | simp only [e4, Bool.false_eq_true, if_false] | (with_reducible refine Mine.newAcc X ?_) | lk)
  intro x dx h' tk k1 k2 k3 k4 k5
  have t1 : Looks (model PySem.Challenge.rw_ik0127_01.row.prog w) h' (typeOf (.ref x)) (.ref 195) := (Looks.ld k2).andThen .now
  have s1 := self.keeps k1
  have i1 := hi'.keeps k1
  have b1 := (hb (.ref x)).keeps k1
  delta isInstance callSpecial? specialOf
  repeat (first | with_reducible refine wpAny_call ?_ | lk)
  refine codeAny_mono (h x dx h' tk k1 k2 k3 k4 k5) fun r s' z => ?_
  rcases r with e | (v | _ | _ | _) <;> first | exact z | exact z.elim | skip
  obtain ⟨rfl, z⟩ := z
  exact wpAny_pure (wpAny_pure z)
end
section
section
variable {M : Model} {A : Around} {E : Value → Shared → Prop} {s : Shared} {env : Env}
/-- a method called with a starred argument: the member is taken, then called -/
theorem starCall {o e : Expr} {name : Str} {apos pos p : Pos} {Q : Value → Shared → Prop}
    (h : wpAny M A (eval o env) (fun ov s₁ => wpAny M A (getAttr ov name true) (fun f s₂ => wpAny M A (callWith pos f [] (backTo pos (starEach [.Starred e p] env)) []) Q E s₂) E s₁) E s)
    (he : eval (.Call (.Attribute o name apos) [.Starred e p] [] pos) env = (do
      let ov ← eval o env
      standAt apos.atName
      let (f, first) ← holding [ov] (do pure (← getAttr ov name true, []))
      let cp ← pure pos
      callWith cp f first (backTo pos (starEach [.Starred e p] env)) []) := by rfl) :
    wpAny M A (eval (.Call (.Attribute o name apos) [.Starred e p] [] pos) env) Q E s := by
  rw [he]
  refine wpAny_bind (wpAny_mono h (fun ov s₁ h₁ => wpAny_bind (wpAny_standAt (wpAny_bind (wpAny_holding (wpAny_bind (wpAny_mono h₁ (fun f s₂ h₂ => ?_) fun _ _ x => x)))))) fun _ _ x => x)
  exact wpAny_pure (wpAny_bind (wpAny_pure h₂))
end
section
variable {prog : Program} {w : World} {A : Around} {E : Value → Shared → Prop} {s : Shared} {K : Frag} {x C f : Addr} {ox : Obj} {od : Option Obj} {name : Str} {expr : Bool} {Q : Value → Shared → Prop}
/-- a member of an object of a list's subclass: a method is bound -/
theorem get_accm (X : K.In s.heap) (I : InstAt s.heap x ox C od) (hga : findIn K (.ref C) "__getattribute__" = some (some (.builtin "list.__getattribute__"))) (hk : findIn K (.ref C) "__getattr__" = some none) (hm : mroIn K C (.type "list") = some true)
    (hf : findObj K C od name = some (.bind (.builtin "function.__get__") (.ref f))) (hfn : typeIn K (.ref f) = some (.type "function"))
    (h : Q (.ref s.heap.objs.size) { s with heap := s.heap.push (methodObj (.ref f) (.ref x)), toks := s.toks + 1 }) : wpAny (model prog w) A (getAttr (.ref x) name expr) Q E s := by
  obtain ⟨hp, g, d, t, os⟩ := s
  have L0 := I.type (M := model prog w)
  have L1 := looks_findIn (M := model prog w) X hga
  have L2 := looks_findIn (M := model prog w) X hk
  have L3 := looks_find (M := model prog w) X I hf
  have hcall : wpAny (model prog w) A (call (.builtin "list.__getattribute__") [.ref x, .str name t]) (fun r s' => r = .ref hp.objs.size ∧ s' = ⟨hp.push (methodObj (.ref f) (.ref x)), g, d, t + 1, os⟩) (fun _ _ => False) ⟨hp, g, d, t + 1, os⟩ := by
    refine call_base (s := ⟨hp, g, d, t + 1, os⟩) X I hm (owner := "list") (n := "__getattribute__") (by decide +kernel) (.inl (by rw [builtinKind_eq_fast]; kernel_rfl)) (by decide +kernel) am_entry_list_getattribute (F.args_list_getattribute_2 _ _) ?_
    delta Builtin.«object.__getattribute__»
    show wpAny _ _ (typeOf (.ref x) >>= _) _ _ _
    refine wpAny_bind (L0.at (wpAny_bind (L3.at ?_)))
    show wpAny _ _ (holding [.ref f] (call (.builtin "function.__get__") [.ref f, .ref x, .ref C]) >>= ret) _ _ _
    refine wpAny_bind (wpAny_holding (wpAny_call (fn_get X hfn ?_)))
    exact wpAny_pure ⟨_, rfl, rfl, rfl⟩
  delta getAttr getAttrBy
  refine wpAny_bind (wpAny_mkText (wpAny_holding (wpAny_bind (L0.at (wpAny_bind (L1.at ?_))))))
  show wpAny _ _ (getAttrByItsOwn _ _ _ _ _ _) _ _ _
  delta getAttrByItsOwn hookBefore
  refine wpAny_bind ?_
  show wpAny _ _ (typeLookup (.ref C) "__getattr__") _ _ _
  refine L2.at ?_
  refine wpAny_bind (wpAny_attempt (wpAny_holding ?_))
  delta callGetattribute
  rw [if_neg (by cases expr <;> decide)]
  delta boundAndCalled
  rw [F.slot_list_getattribute.bind]
  refine wpAny_bind (wpAny_pure ?_)
  refine wpAny_mono hcall (fun r s' q => ?_) fun _ _ q => q.elim
  obtain ⟨rfl, rfl⟩ := q
  show wpAny _ _ (handedOut (.ref hp.objs.size)) _ _ _
  rw [handedOut_of rfl]
  exact wpAny_pure h
/-- a bound method called with the items of a starred argument -/
theorem callWith_bs {q : Addr} {self : Value} {env : Env} {pos p : Pos} {e : Expr} (hfn : fnIn K f = true) (h : wpAny (model prog w) A (eval e env) (fun v s₁ => StarOf (model prog w) A E v (fun vs s₂ => MethP K q f self s₂.heap ∧ wpAny (model prog w) A (call (.ref q) vs) Q E s₂) s₁) E s)
    (he : starEach [.Starred e p] env = [(true, eval e env)] := by rfl) :
    wpAny (model prog w) A (callWith pos (.ref q) [] (backTo pos (starEach [.Starred e p] env)) []) Q E s := by
  rw [he]
  exact ks_call rfl (keeps_M hfn) (ks_lone h)
theorem call_bm {q : Addr} {y : Value} {vs : List Value} (hq : s.heap.get? q = some (methodObj (.ref f) y)) (h : codeAny (model prog w) A (.call (.ref f) ⟨y :: vs, []⟩) (fun r s' => match r with | .ok (.ret v) => Q v s' | .ok _ => False | .error e => E e s') s) : wpAny (model prog w) A (call (.ref q) vs) Q E s :=
  wpAny_call (ks_codeAny_call_bound hq h)
end
end
section
section
variable {prog : Program} {w : World} {A : Around} {E : Value → Shared → Prop} {s : Shared} {env : Env} {h₀ : Heap} {Q : Flow → Shared → Prop}
inductive EndE (h₀ : Heap) (L : Addr) (own news : List (Addr × Obj)) (touched : List Str) (m₀ : Str → Option Value) (Nxt : Prop) (s₁ s₂ : Shared) : Prop
  | mk (h' : Heap) (tk : Nat) (m' : Str → Option Value) (e : s₂ = { s₁ with heap := h', toks := tk }) (F : Fr h₀ L h' m') (N : News h₀ L h' (own ++ news)) (off : ∀ z, touched.contains z = false → m' z = m₀ z) (nxt : Nxt) : EndE h₀ L own news touched m₀ Nxt s₁ s₂
/-- how a turn of a loop may end -/
noncomputable def TurnE (h₀ : Heap) (L : Addr) (own news : List (Addr × Obj)) (touched : List Str) (m₀ : Str → Option Value) (Nxt : Prop) (Q : Flow → Shared → Prop) (s₁ : Shared) : Flow → Shared → Prop
  | .ret v, s₂ => Q (.ret v) s₂
  | .brk, s₂ => Q .next s₂
  | _, s₂ => EndE h₀ L own news touched m₀ Nxt s₁ s₂
/-- what is to be shown of a loop with an else, once its iterator stands -/
inductive LoopE (prog : Program) (w : World) (A : Around) (h₀ : Heap) (env : Env) (x : Str) (body orelse : List Stmt) (touched : List Str) (Inv : Nat → Prop) (Q : Flow → Shared → Prop) (E : Value → Shared → Prop) (it : Value) (s₂ : Shared) : Prop
  | mk (I : Addr) (fp wr : List Addr) (n : Nat) (P : Nat → Value → Prop) (St : Nat → Heap → Prop) (m₀ : Str → Option Value) (news : List (Addr × Obj)) (e : it = .ref I) (W : Walks prog w A I fp wr n P St) (hf : env.locals ∉ fp) (hw : (∀ b ∈ wr, h₀.get? b = none)) (hn : (∀ q ∈ news, q.1 ∉ wr)) (st : St 0 s₂.heap) (F : Fr h₀ env.locals s₂.heap m₀) (N : News h₀ env.locals s₂.heap news) (hI : Inv 0) (turn : (∀ i v u h tk own, i < n → P i v → Inv i → Fr h₀ env.locals h (fun y => if y = x then some v else loopM touched u m₀ [] y) → News h₀ env.locals h (own ++ news) →       wpAny (model prog w) A (execs body env) (TurnE h₀ env.locals own news touched m₀ (Inv (i + 1)) Q { s₂ with heap := h, toks := tk }) E { s₂ with heap := h, toks := tk })) (done : (∀ u h tk, Inv n → Fr h₀ env.locals h (loopM touched u m₀ []) → News h₀ env.locals h news → wpAny (model prog w) A (execs orelse env) Q E { s₂ with heap := h, toks := tk })) : LoopE prog w A h₀ env x body orelse touched Inv Q E it s₂
theorem forE {x : Str} {px pos : Pos} {iter : Expr} {body orelse : List Stmt} (touched : List Str) (Inv : Nat → Prop)
    (hx : env.kindOf x = some .local) (hp : (env.scope.kind == .class || (env.scope.kind == .module && env.locals != env.globals)) = false)
    (hs : ∀ x, foldedSetIterable iter env x = pure x) (hE : PassesOwn (model prog w) A env E) (hxt : touched.contains x = true)
    (h : wpAny (model prog w) A (eval iter env) (fun xv s₁ => wpAny (model prog w) A (pyIter xv) (LoopE prog w A h₀ env x body orelse touched Inv Q E) E s₁) E s) :
    wpAny (model prog w) A (exec (.For (.Name x px) iter body orelse pos) env) Q E s := by
  refine forW (σ := Unit) (h₀ := h₀) (fun _ => []) (fun _ => []) touched (fun i _ => Inv i) hs hE (fun _ _ => rfl) (wpAny_mono h (fun xv s₁ h₁ => wpAny_mono h₁ (fun it s₂ h₂ => ?_) fun _ _ e => e) fun _ _ e => e)
  obtain ⟨I, fp, wr, n, P, St, m₀, news, rfl, W, hLf, hwr, hnw, hst, F, N, hI, turn, done⟩ := h₂
  refine ⟨I, fp, wr, n, P, St, (), news, m₀, rfl, W, hLf, hwr, fun _ _ _ _ _ _ => hnw, hst, F, N, (fun _ h => nomatch h), hI, ?_, fun _ u h tk hI F N => done u h tk hI F N⟩
  intro i _ v u h tk own hi hP hI ho hO F N
  refine wpAny_assign_Name (wpAny_storeName_local hx F.ns (fun h₂ hn₂ hs₂ => ?_) hp)
  refine wpAny_mono (turn i v u h₂ _ own hi hP hI (F.set hn₂ hs₂) (fun p hp => N.set hs₂ p (show p ∈ news ++ own from List.mem_append.mpr (List.mem_append.mp hp).symm))) (fun f s₃ p => ?_) fun _ _ e => e
  have fin : ∀ tz, EndE h₀ env.locals own news touched m₀ (Inv (i + 1)) { s₂ with heap := h₂, toks := tz } s₃ → TurnEnd h₀ env.locals (fun _ : Unit => []) (fun _ => []) touched m₀ (fun _ => Inv (i + 1)) (news ++ own) { s₂ with heap := h, toks := tk } s₃ := by
    rintro tz ⟨h₃, tk₃, m₃, rfl, F₃, N₃, off, hI₃⟩
    exact ⟨h₃, tk₃, m₃, (), own ++ news, rfl, F₃, N₃, fun p hp => List.mem_append.mpr (List.mem_append.mp hp).symm, (fun _ h => nomatch h), (fun _ h => nomatch h), off, hI₃⟩
  cases f with
  | next => exact fin _ p
  | cont => exact fin _ p
  | brk => exact p
  | ret v => exact p
end
end
section
section
variable {prog : Program} {w : World} {A : Around} {E : Value → Shared → Prop} {s : Shared} {env : Env} {h₀ : Heap} {Q : Flow → Shared → Prop} {σ : Type}
inductive EndG (h₀ : Heap) (L : Addr) (Led : σ → List (Addr × Obj)) (own : List (Addr × Obj)) (touched : List Str) (m₀ : Str → Option Value) (Nxt : σ → Prop) (s₁ s₂ : Shared) : Prop
  | mk (h' : Heap) (tk : Nat) (gs : Array GenState) (d : Drawn) (m' : Str → Option Value) (c' : σ) (e : s₂ = { s₁ with heap := h', toks := tk, gens := gs, drawn := d }) (hg : AllBare gs) (F : Fr h₀ L h' m') (N : News h₀ L h' (own ++ Led c')) (off : ∀ z, touched.contains z = false → m' z = m₀ z) (nxt : Nxt c') : EndG h₀ L Led own touched m₀ Nxt s₁ s₂
/-- how a turn may end, generators made and all -/
noncomputable def TurnG (h₀ : Heap) (L : Addr) (Led : σ → List (Addr × Obj)) (own : List (Addr × Obj)) (touched : List Str) (m₀ : Str → Option Value) (Nxt : σ → Prop) (Q : Flow → Shared → Prop) (s₁ : Shared) : Flow → Shared → Prop
  | .ret v, s₂ => Q (.ret v) s₂
  | .brk, s₂ => Q .next s₂
  | _, s₂ => EndG h₀ L Led own touched m₀ Nxt s₁ s₂
inductive LoopG (prog : Program) (w : World) (A : Around) (E : Value → Shared → Prop) (env : Env) (h₀ : Heap) (Q : Flow → Shared → Prop) (x : Str) (body : List Stmt) (Led : σ → List (Addr × Obj)) (touched : List Str) (Inv : Nat → σ → Prop) (xv : Value) (s₁ : Shared) : Prop
  | mk (ax : Addr) (vs : List Value) (c₀ : σ) (m₀ : Str → Option Value) (e : xv = .ref ax) (hl : s₁.heap.IsList ax vs.toArray) (hne : ax ≠ env.locals) (hg : AllBare s₁.gens) (F : Fr h₀ env.locals s₁.heap m₀) (N : News h₀ env.locals s₁.heap (Led c₀)) (hI : Inv 0 c₀) (turn : (∀ i c v u h tk gs d own, vs[i]? = some v → Inv i c → AllBare gs → (∀ p ∈ own, p.2.cls = .type "list_iterator" ∨ p.1 = ax) → h.IsList ax vs.toArray → Fr h₀ env.locals h (fun y => if y = x then some v else loopM touched u m₀ [] y) → News h₀ env.locals h (own ++ Led c) →         wpAny (model prog w) A (execs body env) (TurnG h₀ env.locals Led own touched m₀ (Inv (i + 1)) Q { s₁ with heap := h, toks := tk, gens := gs, drawn := d }) E { s₁ with heap := h, toks := tk, gens := gs, drawn := d })) (done : (∀ c u h tk gs d, Inv vs.length c → AllBare gs → Fr h₀ env.locals h (loopM touched u m₀ []) → News h₀ env.locals h (Led c) → Q .next { s₁ with heap := h, toks := tk, gens := gs, drawn := d })) : LoopG prog w A E env h₀ Q x body Led touched Inv xv s₁
inductive StandG (h₀ : Heap) (env : Env) (Led : σ → List (Addr × Obj)) (touched : List Str) (m₀ : Str → Option Value) (St : Nat → Heap → Prop) (Inv : Nat → σ → Prop) (n : Nat) (s₁ : Shared) (k : Nat) (s' : Shared) : Prop
  | mk (h' : Heap) (tk : Nat) (gs : Array GenState) (d : Drawn) (m' : Str → Option Value) (c : σ) (i : Nat) (e : s' = { s₁ with heap := h', toks := tk, gens := gs, drawn := d }) (hg : AllBare gs) (hst : St i h') (F : Fr h₀ env.locals h' m') (N : News h₀ env.locals h' (Led c)) (off : ∀ z, touched.contains z = false → m' z = m₀ z) (inv : Inv i c) (hi : i ≤ n) (hk : k = n + 1 - i) : StandG h₀ env Led touched m₀ St Inv n s₁ k s'
theorem forG {x : Str} {px pos : Pos} {iter : Expr} {body : List Stmt} (Led : σ → List (Addr × Obj)) (touched : List Str) (Inv : Nat → σ → Prop)
    (hx : env.kindOf x = some .local) (hp : (env.scope.kind == .class || (env.scope.kind == .module && env.locals != env.globals)) = false) (hh : A.handled = none)
    (hs : ∀ x, foldedSetIterable iter env x = pure x) (hE : PassesOwn (model prog w) A env E) (hxt : touched.contains x = true)
    (hcls : ∀ i c, Inv i c → ∀ q ∈ Led c, q.2.cls ≠ .type "list_iterator")
    (h : wpAny (model prog w) A (eval iter env) (LoopG prog w A E env h₀ Q x body Led touched Inv) E s) :
    wpAny (model prog w) A (exec (.For (.Name x px) iter body [] pos) env) Q E s := by
  refine wpAny_For (wpAny_mono h (fun xv s₁ h₁ => ?_) fun _ _ e => e) hs
  obtain ⟨ax, vs, c₀, m₀, rfl, hl, hne, hg, F, N, hI, turn, done⟩ := h₁
  have hlt : ax < s₁.heap.objs.size := by obtain ⟨_, e, _⟩ := hl; exact Heap.lt_size e
  refine wpAny_pyIter_list hl ?_
  have W := Walks.list (prog := prog) (w := w) hh s₁.heap.objs.size ax (Nat.ne_of_lt hlt) vs.toArray
  have hsz : vs.toArray.size = vs.length := by simp
  rw [hsz] at W
  generalize hIe : s₁.heap.objs.size = I at W
  have hLf : env.locals ∉ [I, ax] := by
    intro hm
    rcases List.mem_cons.mp hm with e | hm
    · exact absurd F.ns.lt (by rw [hIe, e]; exact Nat.lt_irrefl _)
    · exact hne (List.mem_singleton.mp hm).symm
  have hwr : ∀ b ∈ [I], h₀.get? b = none := by
    intro b hb
    rw [List.mem_singleton.mp hb, ← hIe]
    exact next_is_new F
  have hLw : env.locals ∉ [I] := fun h => hLf (W.sub _ h)
  have old : ∀ b o, h₀.get? b = some o → b ∉ [I] := fun b o e hb => by rw [hwr b hb] at e; cases e
  refine codeAny_forLoop (R := fun r s' => match r with | .ok f => Q f s' | .error e => cameBackBy (model prog w) A env E e s')
    (StandG h₀ env Led touched m₀ (fun i h' => h'.IsListIter I ax i ∧ h'.IsList ax vs.toArray) Inv vs.length s₁) ?_ (vs.length + 1)
    ⟨_, s₁.toks, s₁.gens, s₁.drawn, m₀, c₀, 0, rfl, hg, ⟨⟨_, by rw [← hIe]; exact Heap.get?_push_size _ rfl, rfl, rfl⟩, hl.push _⟩, F.push _, (fun p hp => ⟨Heap.get?_push_of_some _ (N p hp).1, (N p hp).2⟩), fun _ _ => rfl, hI, Nat.zero_le _, rfl⟩
  rintro k s' ⟨h', tk, gs, d, m', c, i, rfl, hgs, hst', F', N', hoff, hIi, hi, rfl⟩
  have hnw : ∀ q ∈ Led c, q.1 ∉ [I] := fun q hq hm => by
    have e := (N' q hq).1
    obtain ⟨oI, eI, cI, _⟩ := hst'.1
    rw [List.mem_singleton.mp hm, eI] at e
    exact hcls i c hIi q hq (by rw [← Option.some.inj e]; exact cI)
  have next : ∀ h₁ : Heap, (∀ b o, b ∉ [I] → h'.get? b = some o → h₁.get? b = some o) → Fr h₀ env.locals h₁ m' ∧ News h₀ env.locals h₁ (Led c) := fun h₁ hk₁ =>
    ⟨⟨F'.ns.at' fun o e => hk₁ _ o hLw e, fun b o e => hk₁ b o (old b o e) (F'.keep b o e), F'.above⟩, fun p hp => ⟨hk₁ _ _ (hnw p hp) (N' p hp).1, (N' p hp).2⟩⟩
  have hm : loopM touched m' m₀ [] = m' := loopM_eq (fun _ h => nomatch h) hoff
  by_cases hlt : i < vs.length
  · refine W.item i _ _ _ hlt hst' fun v h₁ tk₁ hP hst₁ hk₁ => ?_
    obtain ⟨F₁, N₁⟩ := next h₁ hk₁
    refine wpAny_assign_Name (wpAny_storeName_local hx F₁.ns (fun h₂ hn₂ hs₂ => ?_) hp)
    have F₂ := F₁.set hn₂ hs₂
    have Nown : News h₀ env.locals h₂ (ownOf h₀ [I, ax] h₂) := news_ownOf hLf
    have hst₂ := W.frame (i + 1) _ h₂ hst₁ fun b hb o e => (hs₂.2 b fun q => hLf (q ▸ hb)).trans e
    have hown : ∀ p ∈ ownOf h₀ [I, ax] h₂, p.2.cls = .type "list_iterator" ∨ p.1 = ax := fun p hp => by
      rcases List.mem_cons.mp (ownOf_sub p hp) with e | e
      · left
        obtain ⟨oI, eI, cI, _⟩ := hst₂.1
        have e2 := (Nown p hp).1
        rw [e, eI] at e2
        rw [← Option.some.inj e2]; exact cI
      · exact .inr (List.mem_singleton.mp e)
    refine wpAny_passesOwn hE (wpAny_mono (turn i c v m' h₂ _ gs d (ownOf h₀ [I, ax] h₂) (by simpa using hP) hIi hgs hown hst₂.2 (by rw [hm]; exact F₂) (Nown.append (N₁.set hs₂))) (fun f s₃ p => ?_) fun _ _ e => e)
    have fin : ∀ tz, EndG h₀ env.locals Led (ownOf h₀ [I, ax] h₂) touched m₀ (Inv (i + 1)) { s₁ with heap := h₂, toks := tz, gens := gs, drawn := d } s₃ →
        ∃ k₂, k₂ < vs.length + 1 - i ∧ StandG h₀ env Led touched m₀ (fun i h' => h'.IsListIter I ax i ∧ h'.IsList ax vs.toArray) Inv vs.length s₁ k₂ s₃ := by
      rintro tz ⟨h₃, tk₃, gs₃, d₃, m₃, c₃, rfl, hgs₃, F₃, N₃, hoff₃, hI₃⟩
      refine ⟨vs.length + 1 - (i + 1), nb8 (by first | assumption | exact Nat.le_of_lt (by assumption)), h₃, tk₃, gs₃, d₃, m₃, c₃, i + 1, rfl, hgs₃, ?_, F₃, N₃.right, hoff₃, hI₃, hlt, rfl⟩
      refine W.frame _ _ _ hst₁ fun b hb o e => ?_
      have e₂ : h₂.get? b = some o := (hs₂.2 b fun q => hLf (q ▸ hb)).trans e
      cases hn : h₀.get? b with
      | some o₀ =>
        have e3 := F₂.keep b o₀ hn
        rw [e₂] at e3
        rw [Option.some.inj e3]
        exact F₃.keep b o₀ hn
      | none => exact (N₃ _ (List.mem_append_left _ (mem_ownOf hb hn e₂))).1
    cases f with
    | next => exact fin _ p
    | cont => exact fin _ p
    | brk => exact p
    | ret v => exact p
  · have hin : i = vs.length := ar7 (by assumption) (by assumption)
    subst hin
    refine W.done _ _ _ hst' fun h₁ tk₁ hk₁ => ?_
    obtain ⟨F₁, N₁⟩ := next h₁ hk₁
    exact wpAny_execs_nil (done c m' h₁ tk₁ gs d hIi hgs (by rw [hm]; exact F₁) N₁)
end
end
local macro_rules | `(tactic| walk_at "M strs") => `(tactic| first | assumption | exact StrsAre.nil | exact StrsAre.cons _ _ StrsAre.nil)
local macro_rules | `(tactic| walk_at "compareOp Eq ref ref") => `(tactic| (k_here; k_dflt (refine Mine.eq_strs (by is_list) (by is_list) (by walk_at "M strs") (by walk_at "M strs") (by walk_at "M ok") (by walk_at "M ok") (by ke_room) ?_)))
local macro_rules | `(tactic| walk_at "compareOp NotEq ref ref") => `(tactic| (k_here; k_dflt (refine Mine.ne_strs (by is_list) (by is_list) (by walk_at "M strs") (by walk_at "M strs") (by walk_at "M ok") (by walk_at "M ok") (by ke_room) ?_)))
local macro_rules | `(tactic| walk_at "M ok") => `(tactic| first | assumption | exact Mine.OkStrs.nil)
local macro_rules | `(tactic| walk_at "M memvar") => `(tactic| first | assumption | (refine List.Mem.tail _ ?_; walk_at "M memvar"))
local macro_rules | `(tactic| walk_at "M sub1") => `(tactic| first | exact List.forall_mem_nil _ | (refine' Mine.fmc ?a ?b; (case a => k_mem); (case b => walk_at "M sub1")) | (intro _ _; walk_at "M memvar"))
local macro_rules | `(tactic| walk_at "M sub") => `(tactic| ((try dsimp only [List.cons_append, List.nil_append]); walk_at "M sub1"))
local macro_rules | `(tactic| walk_at "M ps") => `(tactic| first | exact List.forall_mem_nil _ | (refine' Mine.fmc ?a ?b; (case a => first | rfl | with_unfolding_all rfl); (case b => walk_at "M ps")))
local macro_rules | `(tactic| walk_at "M names") => `(tactic| first | exact List.forall_mem_nil _ | (refine' Mine.fmc ?a ?b; (case a => first | rfl | with_unfolding_all rfl); (case b => walk_at "M names")))
local macro_rules | `(tactic| walk_at "M off1") => `(tactic| first | (refine Mine.step_if (by assumption) (by decide) ?_; walk_at "M off1") | (refine Mine.loopM_off (by assumption) ?_; walk_at "M names") | exact Mine.cond_off (by assumption) | rfl)
local macro_rules | `(tactic| walk_at "M off") => `(tactic| (intro _ _; walk_at "M off1"))
local macro_rules | `(tactic| walk_at "M noiter") => `(tactic| first | exact Mine.NoIter.nil | (refine Mine.NoIter.listOf ?_; walk_at "M noiter") | (refine Mine.NoIter.cell (by assumption) ?_; walk_at "M noiter"))
local macro_rules | `(tactic| walk_at "call builtin:list.append") => `(tactic| (k_here; k_dflt (refine' append_K ?k1 ?k2 ?k3 ?_ ?z; (case k1 | k2 => k_asm); (case k3 => k_upd); (case z => first | with_reducible assumption | size_fits); k_whole); intro _ _ _))
local macro_rules | `(tactic| walk_at "newList") => `(tactic| (k_here; (rename Mine.MarkNew => mk'); (with_reducible refine Mine.stopHere ?_)))
set_option hygiene false in
local macro_rules | `(tactic| walk_at "execs cons") => `(tactic| first | (k_here; k_gentoks) | ((try ((fail_if_success (fail_if_success rewrite [(rfl : @Mine.TurnPost = @Mine.TurnPost)])); (with_reducible refine (let kT : Flow → Shared → Prop := Mine.TurnPost _ _ _ _ _ _ _ _ _ _; (?_ : wpAny _ _ _ kT _ _))))); (try ((fail_if_success (fail_if_success rewrite [(rfl : @noteFrame = @noteFrame)])); (fail_if_success (have := eT)); (with_reducible refine (let eT : Value → Shared → Prop := fun e s₁ => wpAny _ _ (noteFrame e _) _ _ s₁; (?_ : wpAny _ _ _ _ eT _))))); (with_reducible refine Mine.consN ?_); try dsimp only))
local macro_rules | `(tactic| walk_at "callWith") => `(tactic| first | with_reducible refine callWith_method0 ?_ | refine Mine.blt0N ?_ | refine Mine.bltN ?_)
local macro_rules | `(tactic| walk_at "callWith ref") => `(tactic| (k_here; k_dflt (refine' Mine.funN ?k1 ?k2 ?_; (case k1 => k_asm); (case k2 => k_is); k_whole)))
local macro_rules | `(tactic| walk_at "isTrue BoolOp") => `(tactic| first | with_reducible refine isTrue_and_nil ?_ | with_reducible refine isTrue_or_nil ?_ | with_reducible refine Mine.andN ?_ | with_reducible refine Mine.orN ?_)
local macro_rules | `(tactic| walk_at "isTrue UnaryOp") => `(tactic| first | with_reducible refine Mine.notN ?_ | refine Mine.plainN ?_)
local macro_rules | `(tactic| walk_at "isTrue") => `(tactic| (plain_pass; refine Mine.plainN ?_))
local macro_rules | `(tactic| walk_at "M norm") => `(tactic| first | ((with_reducible refine (?_ : wpAny _ _ _ _ _ _)); (try ((with_reducible show wpAny _ _ (call _ (_ ++ _)) _ _ _); first | refine (?_ : wpAny _ _ (call _ []) _ _ _) | refine (?_ : wpAny _ _ (call _ [_]) _ _ _) | refine (?_ : wpAny _ _ (call _ [_, _]) _ _ _) | refine (?_ : wpAny _ _ (call _ [_, _, _]) _ _ _) | refine (?_ : wpAny _ _ (call _ [_, _, _, _]) _ _ _)))) | (with_reducible refine (?_ : @ite Prop ((_ : Bool) = true) (instDecidableEqBool _ true) _ _)) | (with_reducible refine (?_ : And _ _)) | skip)

local macro_rules | `(tactic| walk_at "M let") => do
  return (← ("mA mB mC mD mE mF mG mH mI mJ mK mL mM mN".splitOn " ").foldrM (fun n (a : Lean.TSyntax `tactic) => let x := Lean.mkIdent (.mkSimple n); `(tactic| first | ((fail_if_success (have := $x)); intro $x:ident) | $a:tactic)) (← `(tactic| intro _))).raw
local macro_rules | `(tactic| walk_at "storeName") => `(tactic| (k_here; k_dflt (refine' Mine.storeS ?F ?N ?_ ?a ?b; (case F | N => k_asm); (case a | b => rfl); k_whole; walk_at "M let"; intro _ _ _ _; (try k_sweep))))
local macro_rules | `(tactic| walk_at "M w") => `(tactic| (walk_at "M norm"; walk1 <;> walk_at "M norm"))
local macro_rules | `(tactic| k_steps) => `(tactic| ((repeat' (first | (k_unfold; (try dsimp only)) | (k_end; wrow_close) | (walk_at "M norm"; walk1) | (dsimp only; walk1) | (leave1; walk_say "STEP leave1"; try dsimp only) | fail "no step")); all_goals (walk_at "M norm")))
local macro_rules | `(tactic| obtain $pat:rcasesPatMed := $e) => `(tactic| first | ((fail_if_success (fail_if_success (with_reducible show wpAny _ _ _ _ _ _))); refine (let gk : Prop := _; (?_ : gk)); (rcases $e:term with $pat) <;> (with_reducible refine (?_ : wpAny _ _ _ _ _ _)) <;> clear gk) | rcases $e:term with $pat)
local macro_rules | `(tactic| walk_at "M stop") => `(tactic| (k_here; (with_reducible refine Mine.stopHere ?_)))
local macro_rules | `(tactic| walk_at $s:str) => if ["exec Assign cons ListComp", "eval ListComp", "exec For Name Call cons nil", "exec For Name Name cons nil", "exec For Name Subscript cons nil", "exec For Name Attribute cons nil", "exec While", "exec While Compare", "exec While BoolOp"].contains s.getString then `(tactic| walk_at "M stop") else Lean.Macro.throwUnsupported
local macro_rules | `(tactic| walk_at $s:str) => match [("exec Assign", "asgN"), ("exec AugAssign", "augN"), ("exec If", "ifN"), ("exec Expr", "exprN"), ("exec Return some", "retN"), ("isTrue Compare", "cmpT"), ("eval Compare", "cmpE"), ("eval BinOp", "binN"), ("eval Subscript", "subN"), ("eval Slice", "sliceN"), ("spliced", "argN"), ("eval Call Attribute", "metN"), ("eval Attribute Name", "attN"), ("eval List", "lstN"), ("eval Tuple", "tupN"), ("eval UnaryOp", "unaN"), ("joinParts", "joinN"), ("assignInOrder", "tgtN"), ("eval Constant int", "intS"), ("eval Constant str", "strS"), ("binaryOp Add int int", "addS"), ("inplaceOp Add int int", "iaddS"), ("unaryOp USub int", "negS")].lookup s.getString with | some n => `(tactic| refine $(Lean.mkIdent (.str `Mine n)) ?_) | none => Lean.Macro.throwUnsupported
local macro_rules | `(tactic| walk_at "M gm") => `(tactic| (k_here; k_dflt (refine' Mine.gm_user ?X ?N ?a ?b ?c ?d ?i ?_; (case X => k_in); (case N => k_asm); (case a | b => k_mem); (case c | d => exact rfl); (case i => first | assumption | exact rfl); k_whole)))
local macro_rules | `(tactic| walk_at "M ar") => do
  return (← ("ab ar1 ar2 ar3 ar4 ar0 ar11 al0 al1 al2 al3 am0 am1 am2 am3 ap1 ap2 ap3 ap4 aq aoa ao1 ao2 ao3 ao4 ao ao0 ar5 ar6 ar12 ar13 ar7 ar9 ar14 ar15 aq'".splitOn " ").foldrM (fun n (a : Lean.TSyntax `tactic) => `(tactic| first | (apply $(Lean.mkIdent (.str `Mine n)) <;> first | assumption | with_reducible_and_instances exact rfl) | $a:tactic)) (← `(tactic| exact ac (by first | assumption | with_reducible_and_instances exact rfl)))).raw
local macro_rules | `(tactic| omega $c:optConfig) => if c.raw[0].getNumArgs == 0 then `(tactic| ((fail_if_success (fail_if_success omega (splitNatSub := true))); first | with_reducible (first | assumption | walk_at "M ar") | lia (splits := 9) | omega (splitNatSub := true))) else Lean.Macro.throwUnsupported
local macro_rules | `(tactic| lia $c:optConfig) => if c.raw[0].getNumArgs == 0 then `(tactic| first | with_reducible (first | assumption | walk_at "M ar") | lia (splits := 9)) else Lean.Macro.throwUnsupported
section
section
variable {prog : Program} {w : World} {A : Around} {E : Value → Shared → Prop} {R : Result → Shared → Prop} {s : Shared} {h₀ : Heap} {L : Addr} {m : Str → Option Value} {env : Env}

noncomputable abbrev twoFor (elt : Expr) (x : Str) (px : Pos) (iter₁ : Expr) (y : Str) (py : Pos) (iter₂ : Expr) (ifs : List Expr) (scope : Scope) (pos : Pos) : Expr :=
  .ListComp elt [⟨.Name x px, iter₁, [], 0⟩, ⟨.Name y py, iter₂, ifs, 0⟩] scope pos

theorem turn_in (elt iter₁ iter₂ : Expr) (x y : Str) (px py : Pos) (ifs : List Expr) (scope : Scope) (pos : Pos) (it acc : Value) (env : Env) :
    compTurn (twoFor elt x px iter₁ y py iter₂ ifs scope pos) 1 it acc env = (do
      standAt iter₂.pos
      match ← pyNext it with
      | none => pure (.done .next)
      | some v =>
        letOwnedTupleGo (.Name y py) it v
        assign (.Name y py) env v
        let mut ok := true
        for c in ifs do
          if ok then ok ← isTrue c env (eval c env)
        if ok then
          (do let _ ← call (.builtin "list.append") [acc, ← eval elt env])
        again (.compLoop (twoFor elt x px iter₁ y py iter₂ ifs scope pos) 1 it acc env)) := by rfl

theorem turn_out (elt iter₁ iter₂ : Expr) (x y : Str) (px py : Pos) (ifs : List Expr) (scope : Scope) (pos : Pos) (it acc : Value) (env : Env) :
    compTurn (twoFor elt x px iter₁ y py iter₂ ifs scope pos) 0 it acc env = (do
      standAt iter₁.pos
      match ← pyNext it with
      | none => pure (.done .next)
      | some v =>
        letOwnedTupleGo (.Name x px) it v
        assign (.Name x px) env v
        let xv ← eval iter₂ env
        standAt iter₂.pos
        let xv ← foldedSetIterable iter₂ env xv
        let _ ← runOwn (.compStart (twoFor elt x px iter₁ y py iter₂ ifs scope pos) 1 (← holding [xv] (pyIter xv)) acc env) env
        again (.compLoop (twoFor elt x px iter₁ y py iter₂ ifs scope pos) 0 it acc env)) := by rfl

theorem start_in {elt iter₁ iter₂ : Expr} {x y : Str} {px py : Pos} {ifs : List Expr} {scope : Scope} {pos : Pos} {it acc : Value}
    (h0 : codeAny (model prog w) A (.compLoop (twoFor elt x px iter₁ y py iter₂ ifs scope pos) 1 it acc env) R s)
    (h : wpAny (model prog w) A (pyIter it) (fun it' s' => codeAny (model prog w) A (.compLoop (twoFor elt x px iter₁ y py iter₂ ifs scope pos) 1 it' acc env) R s')
      (notedBy (model prog w) A env fun x s' => R (.error x) s') s) :
    codeAny (model prog w) A (.compStart (twoFor elt x px iter₁ y py iter₂ ifs scope pos) 1 it acc env) R s := by
  refine codeAny_of_tree ?_
  show wpAny _ _ ((compStart (twoFor elt x px iter₁ y py iter₂ ifs scope pos) 1 it acc env).onRaise (fun x => do noteFrame x env; standAt theWindowsPlace)) _ _ s
  refine wpAny_notedAt ?_
  unfold compStart
  show wpAny _ _ (ask >>= _) _ _ s
  refine wpAny_bind (wpAny_askSetting (wpAny_ite ?_))
  split
  · first
      | exact wpAny_bind (wpAny_pure (wpAny_pure (And.intro rfl h0)))
      | exact wpAny_pure (And.intro rfl h0)
  · first
      | exact wpAny_bind (wpAny_rule (wpAny_bind (wpAny_standAt (wpAny_bind (wpAny_mono h (fun it' s' h' => wpAny_pure (And.intro rfl h')) fun _ _ x => x)))))
      | (refine wpAny_bind (wpAny_rule ?_); show wpAny _ _ (standAt iter₂.pos >>= _) _ _ s; exact wpAny_bind (wpAny_standAt (wpAny_bind (wpAny_mono h (fun it' s' h' => wpAny_pure (And.intro rfl h')) fun _ _ x => x))))

inductive InSt (s : Shared) (m : Str → Option Value) (cenv : Env) (I D b : Addr) (us : List Value) (acc : Array Value) (y : Str) (p : Value → Bool) (Fv : Value → Value → Prop) (k : Nat) (s' : Shared) : Prop
  | mk (h' : Heap) (tk : Nat) (m' : Str → Option Value) (ys : List Value) (i : Nat) (e : s' = { s with heap := h', toks := tk }) (it : h'.IsListIter I b i) (il : h'.IsList b us.toArray) (hD : h'.PlainList D (acc ++ List.toArray ys)) (hC : h'.Ns cenv.locals m') (hoff : (∀ z, z ≠ y → m' z = m z)) (hF : Paired Fv ((us.take i).filter p) ys) (hi : i ≤ us.length) (hk : k = us.length + 1 - i) (kp : (∀ a o, a ≠ cenv.locals → a ≠ I → a ≠ D → s.heap.get? a = some o → h'.get? a = some o)) : InSt s m cenv I D b us acc y p Fv k s'
/-- the inner loop -/
theorem loop_in {elt iter₁ iter₂ : Expr} {x y : Str} {px py : Pos} {ifs : List Expr} {scope : Scope} {pos : Pos} {cenv : Env} {I D b : Addr} {us : List Value} {acc : Array Value} (p : Value → Bool) (Fv : Value → Value → Prop)
    (hh : A.handled = none) (hy : cenv.kindOf y = some .local) (hp : (cenv.scope.kind == .class || (cenv.scope.kind == .module && cenv.locals != cenv.globals)) = false)
    (hDC : D ≠ cenv.locals) (hDI : D ≠ I) (hCI : cenv.locals ≠ I) (hbD : b ≠ D) (hbC : b ≠ cenv.locals) (hbI : b ≠ I) (hsz : acc.size + us.length ≤ sizeLine)
    (hst : s.heap.IsListIter I b 0) (hl : s.heap.IsList b us.toArray) (hacc : s.heap.PlainList D acc) (hn : s.heap.Ns cenv.locals m)
    (htests : ∀ u s₂ m₂ E', u ∈ us → s₂.heap.Ns cenv.locals m₂ → m₂ y = some u → (∀ z, z ≠ y → m₂ z = m z) → (∀ a o, a ≠ cenv.locals → a ≠ I → a ≠ D → s.heap.get? a = some o → s₂.heap.get? a = some o) → Tests prog w A ifs cenv (fun ok s₃ => ok = p u ∧ Keeps s₂ s₃) E' s₂)
    (helt : ∀ u s₂ m₂ E', u ∈ us → p u = true → s₂.heap.Ns cenv.locals m₂ → m₂ y = some u → (∀ z, z ≠ y → m₂ z = m z) → (∀ a o, a ≠ cenv.locals → a ≠ I → a ≠ D → s.heap.get? a = some o → s₂.heap.get? a = some o) → wpAny (model prog w) A (eval elt cenv) (fun r s₃ => Fv u r ∧ Keeps s₂ s₃) E' s₂)
    (hR : ∀ h' tk m' (ys : List Value), h'.Ns cenv.locals m' → (∀ z, z ≠ y → m' z = m z) → h'.PlainList D (acc ++ ys.toArray) → Paired Fv (us.filter p) ys → (∀ a o, a ≠ cenv.locals → a ≠ I → a ≠ D → s.heap.get? a = some o → h'.get? a = some o) → R (.ok .next) { s with heap := h', toks := tk }) :
    codeAny (model prog w) A (.compLoop (twoFor elt x px iter₁ y py iter₂ ifs scope pos) 1 (.ref I) (.ref D) cenv) R s := by
  have W := Walks.list (prog := prog) (w := w) hh I b hbI us.toArray
  rw [List.size_toArray] at W
  refine codeAny_loop rfl (InSt s m cenv I D b us acc y p Fv) (fun k s' hI => ?_) (us.length + 1)
    ⟨s.heap, s.toks, m, [], 0, rfl, hst, hl, by simpa using hacc, hn, fun _ _ => rfl, by simpa using Paired.nil, Nat.zero_le _, rfl, fun _ _ _ _ _ e => e⟩
  obtain ⟨H, tk, m', ys, i, rfl, hit, hil, hD, hC, hoff, hF, hi, rfl, hk⟩ := hI
  show wpAny _ A ((compTurn (twoFor elt x px iter₁ y py iter₂ ifs scope pos) 1 (.ref I) (.ref D) cenv).onRaise (fun x => do noteFrame x cenv; theTreesLotGoes x)) _ _ _
  refine wpAny_noted ?_
  rw [turn_in]
  refine wpAny_bind (wpAny_standAt (wpAny_bind ?_))
  by_cases hlt : i < us.length
  · refine W.item i _ _ _ hlt ⟨hit, hil⟩ fun v h₁ tk₁ hv st₁ hk₁ => ?_
    have hv' : us[i]? = some v := by simpa using hv
    have kp₁ : ∀ a o, a ≠ I → H.get? a = some o → h₁.get? a = some o := fun a o ha e => hk₁ a o (fun hm => ha (List.mem_singleton.mp hm)) e
    refine wpAny_bind (wpAny_of_eq (show letOwnedTupleGo (.Name y py) (.ref I) v = pure () from rfl) ?_)
    refine wpAny_bind (wpAny_assign_Name (wpAny_storeName_local hy (hC.at' fun o e => kp₁ _ o hCI e) (fun h₂ hn₂ hs₂ => ?_) hp))
    have kp₂ : ∀ a o, a ≠ cenv.locals → a ≠ I → H.get? a = some o → h₂.get? a = some o := fun a o ha hb e => hs₂.extBut a o ha (kp₁ a o hb e)
    have um : v ∈ us := List.mem_of_getElem? hv'
    have hoff₂ : ∀ z, z ≠ y → (fun z => if z = y then some v else m' z) z = m z := fun z hz => by show (if z = y then some v else m' z) = m z; rw [if_neg hz]; exact hoff z hz
    have kp : ∀ a o, a ≠ cenv.locals → a ≠ I → a ≠ D → s.heap.get? a = some o → h₂.get? a = some o := fun a o h1 h2 h3 e => kp₂ a o h1 h2 (hk a o h1 h2 h3 e)
    refine wpAny_bind (wpAny_mono (htests v _ _ _ um hn₂ (by simp) hoff₂ kp) (fun ok s₃ h₃ => ?_) fun _ _ e => e)
    obtain ⟨rfl, h₃, tk₃, rfl, hk₃⟩ := h₃
    have tk1 : us.take (i + 1) = us.take i ++ [v] := by rw [List.take_add_one, hv']; rfl
    have D₃ : h₃.PlainList D (acc ++ ys.toArray) := hD.at fun o e => hk₃ _ o (kp₂ D o hDC hDI e)
    have it₃ : h₃.IsListIter I b (i + 1) := Heap.IsListIter.at (Heap.IsListIter.at st₁.1 fun o e => hs₂.extBut I o (Ne.symm hCI) e) fun o e => hk₃ _ o e
    have il₃ : h₃.IsList b us.toArray := Heap.IsList.at (Heap.IsList.at st₁.2 fun o e => hs₂.extBut b o hbC e) fun o e => hk₃ _ o e
    cases hpv : p v with
    | false =>
      refine wpAny_pure ⟨rfl, us.length + 1 - (i + 1), nb8 (by first | assumption | exact Nat.le_of_lt (by assumption)), h₃, tk₃, _, ys, i + 1, rfl, it₃, il₃, D₃, hn₂.keeps hk₃, hoff₂, ?_, hlt, rfl, fun a o h1 h2 h3 e => hk₃ _ _ (kp a o h1 h2 h3 e)⟩
      rw [tk1, List.filter_append]; simpa [hpv] using hF
    | true =>
      refine wpAny_bind (wpAny_bind (wpAny_mono (helt v _ _ _ um hpv (hn₂.keeps hk₃) (by simp) hoff₂ fun a o h1 h2 h3 e => hk₃ _ _ (kp a o h1 h2 h3 e)) (fun r s₄ h₄ => ?_) fun _ _ e => e))
      obtain ⟨hr, h₄, tk₄, rfl, hk₄⟩ := h₄
      have hys : (acc ++ ys.toArray).size ≤ sizeLine := by
        have e1 := hF.length
        have e2 : ((us.take i).filter p).length ≤ (us.take i).length := List.length_filter_le _ _
        have e3 : (us.take i).length ≤ us.length := by rw [List.length_take]; exact Nat.min_le_right _ _
        have e4 : (acc ++ ys.toArray).size = acc.size + ys.length := by simp
        exact Nat.le_trans (Nat.le_of_eq e4) (Nat.le_trans (Nat.add_le_add_left (Nat.le_trans (Nat.le_of_eq e1.symm) (Nat.le_trans e2 e3)) _) (by assumption))
      refine wpAny_bind (wpAny_list_append_plain (hsz := hys) (D₃.at fun o e => hk₄ _ o e) fun h₅ hl₅ hs₅ => ?_)
      refine wpAny_pure (wpAny_pure ⟨rfl, us.length + 1 - (i + 1), nb8 (by first | assumption | exact Nat.le_of_lt (by assumption)), h₅, tk₄, _, ys ++ [r], i + 1, rfl, ?_, ?_, ?_, ((hn₂.keeps hk₃).keeps hk₄).sameBut hs₅ (Ne.symm hDC), hoff₂, ?_, hlt, rfl,
        fun a o h1 h2 h3 e => hs₅.extBut a o h3 (hk₄ _ _ (hk₃ _ _ (kp a o h1 h2 h3 e)))⟩)
      · exact (it₃.at fun o e => hk₄ _ o e).at fun o e => hs₅.extBut I o (Ne.symm hDI) e
      · exact (il₃.at fun o e => hk₄ _ o e).at fun o e => hs₅.extBut b o hbD e
      · have e5 : acc ++ (ys ++ [r]).toArray = (acc ++ ys.toArray).push r := by simp
        rw [e5]; exact hl₅
      · rw [tk1, List.filter_append]; simpa [hpv] using Paired.snoc hF hr
  · have hin : i = us.length := ar7 (by assumption) (by assumption)
    subst hin
    refine W.done _ _ _ ⟨hit, hil⟩ fun h₁ tk₁ hk₁ => ?_
    have kp₁ : ∀ a o, a ≠ I → H.get? a = some o → h₁.get? a = some o := fun a o ha e => hk₁ a o (fun hm => ha (List.mem_singleton.mp hm)) e
    rw [List.take_length] at hF
    exact wpAny_pure (hR h₁ tk₁ m' ys (hC.at' fun o e => kp₁ _ o hCI e) hoff (hD.at fun o e => kp₁ _ o hDI e) hF fun a o h1 h2 h3 e => kp₁ a o h2 (hk a o h1 h2 h3 e))
end

section
variable {prog : Program} {w : World} {A : Around} {E : Value → Shared → Prop} {R : Result → Shared → Prop} {s : Shared} {h₀ : Heap} {L : Addr} {m : Str → Option Value} {env : Env}
inductive OutSt (s : Shared) (cenv : Env) (I D b : Addr) (vs : List Value) (nn : Nat) (U : Value → List Value → Prop) (p : Value → Value → Bool) (Fv : Value → Value → Value → Prop) (k : Nat) (s' : Shared) : Prop
  | mk (h' : Heap) (tk : Nat) (m' : Str → Option Value) (yss : List (List Value)) (i : Nat) (e : s' = { s with heap := h', toks := tk }) (it : h'.IsListIter I b i) (il : h'.IsList b vs.toArray) (hD : h'.PlainList D (List.flatten yss).toArray) (hC : h'.Ns cenv.locals m') (hF : Paired (fun v ys => ∃ us, U v us ∧ Paired (Fv v) (us.filter (p v)) ys) (vs.take i) yss) (hlen : yss.flatten.length ≤ i * nn) (hi : i ≤ vs.length) (hk : k = vs.length + 1 - i) (kp : (∀ a o, a ≠ cenv.locals → a ≠ I → a ≠ D → s.heap.get? a = some o → h'.get? a = some o)) (hDl : D < h'.objs.size) (hIl : I < h'.objs.size) : OutSt s cenv I D b vs nn U p Fv k s'
/-- the outer loop -/
theorem loop_out {elt iter₁ iter₂ : Expr} {x y : Str} {px py : Pos} {ifs : List Expr} {scope : Scope} {pos : Pos} {cenv : Env} {I D b : Addr} {vs : List Value} (nn : Nat) (U : Value → List Value → Prop) (p : Value → Value → Bool) (Fv : Value → Value → Value → Prop)
    (hA : A.mark none = A) (hh : A.handled = none) (hx : cenv.kindOf x = some .local) (hy : cenv.kindOf y = some .local) (hxy : x ≠ y) (hp : (cenv.scope.kind == .class || (cenv.scope.kind == .module && cenv.locals != cenv.globals)) = false) (hs : ∀ z, foldedSetIterable iter₂ cenv z = pure z)
    (hDC : D ≠ cenv.locals) (hDI : D ≠ I) (hCI : cenv.locals ≠ I) (hbD : b ≠ D) (hbC : b ≠ cenv.locals) (hbI : b ≠ I) (hsz : vs.length * nn ≤ sizeLine)
    (hDl : D < s.heap.objs.size) (hst : s.heap.IsListIter I b 0) (hl : s.heap.IsList b vs.toArray) (hacc : s.heap.PlainList D #[]) (hn : s.heap.Ns cenv.locals m)
    (hiter : ∀ v s₂ m₂ E', v ∈ vs → s₂.heap.Ns cenv.locals m₂ → m₂ x = some v → (∀ a o, a ≠ cenv.locals → a ≠ I → a ≠ D → s.heap.get? a = some o → s₂.heap.get? a = some o) → D < s₂.heap.objs.size → I < s₂.heap.objs.size →
      wpAny (model prog w) A (eval iter₂ cenv) (fun xv s₃ => ∃ b₂ us, xv = .ref b₂ ∧ s₃.heap.IsList b₂ (List.toArray us) ∧ us.length ≤ nn ∧ U v us ∧ b₂ ≠ D ∧ b₂ ≠ cenv.locals ∧ Keeps s₂ s₃) E' s₂)
    (htests : ∀ v us u s₂ m₂ E', v ∈ vs → U v us → u ∈ us → s₂.heap.Ns cenv.locals m₂ → m₂ x = some v → m₂ y = some u → (∀ a o, a ≠ cenv.locals → a ≠ I → a ≠ D → s.heap.get? a = some o → s₂.heap.get? a = some o) → Tests prog w A ifs cenv (fun ok s₃ => ok = p v u ∧ Keeps s₂ s₃) E' s₂)
    (helt : ∀ v us u s₂ m₂ E', v ∈ vs → U v us → u ∈ us → p v u = true → s₂.heap.Ns cenv.locals m₂ → m₂ x = some v → m₂ y = some u → (∀ a o, a ≠ cenv.locals → a ≠ I → a ≠ D → s.heap.get? a = some o → s₂.heap.get? a = some o) → wpAny (model prog w) A (eval elt cenv) (fun r s₃ => Fv v u r ∧ Keeps s₂ s₃) E' s₂)
    (hR : ∀ h' tk m' (yss : List (List Value)), h'.Ns cenv.locals m' → h'.PlainList D yss.flatten.toArray → Paired (fun v ys => ∃ us, U v us ∧ Paired (Fv v) (us.filter (p v)) ys) vs yss → (∀ a o, a ≠ cenv.locals → a ≠ I → a ≠ D → s.heap.get? a = some o → h'.get? a = some o) → R (.ok .next) { s with heap := h', toks := tk }) :
    codeAny (model prog w) A (.compLoop (twoFor elt x px iter₁ y py iter₂ ifs scope pos) 0 (.ref I) (.ref D) cenv) R s := by
  have W := Walks.list (prog := prog) (w := w) hh I b hbI vs.toArray
  rw [List.size_toArray] at W
  have hIl : I < s.heap.objs.size := by obtain ⟨_, e, _⟩ := hst; exact Heap.lt_size e
  refine codeAny_loop rfl (OutSt s cenv I D b vs nn U p Fv) (fun k s' hI => ?_) (vs.length + 1)
    ⟨s.heap, s.toks, m, [], 0, rfl, hst, hl, hacc, hn, .nil, Nat.zero_le _, Nat.zero_le _, rfl, fun _ _ _ _ _ e => e, hDl, hIl⟩
  obtain ⟨H, tk, m', yss, i, rfl, hit, hil, hD, hC, hF, hlen, hi, rfl, hk, hDH, hIH⟩ := hI
  show wpAny _ A ((compTurn (twoFor elt x px iter₁ y py iter₂ ifs scope pos) 0 (.ref I) (.ref D) cenv).onRaise (fun x => do noteFrame x cenv; theTreesLotGoes x)) _ _ _
  refine wpAny_noted ?_
  rw [turn_out]
  refine wpAny_bind (wpAny_standAt (wpAny_bind ?_))
  by_cases hlt : i < vs.length
  · refine W.item i _ _ _ hlt ⟨hit, hil⟩ fun v h₁ tk₁ hv st₁ hk₁ => ?_
    have hv' : vs[i]? = some v := by simpa using hv
    have kp₁ : ∀ a o, a ≠ I → H.get? a = some o → h₁.get? a = some o := fun a o ha e => hk₁ a o (fun hm => ha (List.mem_singleton.mp hm)) e
    refine wpAny_bind (wpAny_of_eq (show letOwnedTupleGo (.Name x px) (.ref I) v = pure () from rfl) ?_)
    refine wpAny_bind (wpAny_assign_Name (wpAny_storeName_local hx (hC.at' fun o e => kp₁ _ o hCI e) (fun h₂ hn₂ hs₂ => ?_) hp))
    have um : v ∈ vs := List.mem_of_getElem? hv'
    have kp : ∀ a o, a ≠ cenv.locals → a ≠ I → a ≠ D → s.heap.get? a = some o → h₂.get? a = some o := fun a o h1 h2 h3 e => hs₂.extBut a o h1 (kp₁ a o h2 (hk a o h1 h2 h3 e))
    have tk1 : vs.take (i + 1) = vs.take i ++ [v] := by rw [List.take_add_one, hv']; rfl
    have D₂ : h₂.PlainList D yss.flatten.toArray := (hD.at fun o e => kp₁ _ o hDI e).at fun o e => hs₂.extBut D o hDC e
    have it₂ : h₂.IsListIter I b (i + 1) := st₁.1.at fun o e => hs₂.extBut I o (Ne.symm hCI) e
    have il₂ : h₂.IsList b vs.toArray := st₁.2.at fun o e => hs₂.extBut b o hbC e
    have Dl₂ : D < h₂.objs.size := by obtain ⟨_, e⟩ := D₂; exact Heap.lt_size e
    have Il₂ : I < h₂.objs.size := by obtain ⟨_, e, _⟩ := it₂; exact Heap.lt_size e
    refine wpAny_bind (wpAny_mono (hiter v _ _ _ um hn₂ (by simp) kp Dl₂ Il₂) (fun xv s₃ h₃ => ?_) fun _ _ e => e)
    obtain ⟨b₂, us, rfl, hl₃, hus, hU, hb₂D, hb₂C, h₃, tk₃, rfl, hk₃⟩ := h₃
    have hb₂l : b₂ < h₃.objs.size := by obtain ⟨_, e, _⟩ := hl₃; exact Heap.lt_size e
    refine wpAny_bind (wpAny_standAt (wpAny_bind (wpAny_of_eq (hs _) (wpAny_bind (wpAny_holding (wpAny_pyIter_list hl₃ ?_))))))
    have up : ∀ a o, h₃.get? a = some o → (h₃.push { cls := .type "list_iterator", data := .fields #[.ref b₂, .int 0 0] }).get? a = some o := fun a o e => Heap.get?_push_of_some _ e
    have n₃ : Heap.Ns (h₃.push { cls := .type "list_iterator", data := .fields #[.ref b₂, .int 0 0] }) cenv.locals (fun z => if z = x then some v else m' z) := (hn₂.keeps hk₃).keeps up
    have D₃ : h₃.PlainList D yss.flatten.toArray := D₂.at fun o e => hk₃ _ o e
    have Dl₃ : D < h₃.objs.size := by obtain ⟨_, e⟩ := D₃; exact Heap.lt_size e
    have Cl₃ : cenv.locals < h₃.objs.size := (hn₂.keeps hk₃).lt
    have it₃ : h₃.IsListIter I b (i + 1) := it₂.at fun o e => hk₃ _ o e
    have Il₃ : I < h₃.objs.size := by obtain ⟨_, e, _⟩ := it₃; exact Heap.lt_size e
    have il₃ : h₃.IsList b vs.toArray := il₂.at fun o e => hk₃ _ o e
    have bl₃ : b < h₃.objs.size := by obtain ⟨_, e, _⟩ := il₃; exact Heap.lt_size e
    refine wpAny_bind (wpAny_runOwn ?_ (by intro e; cases e))
    rw [hA]
    refine (fun (fin : ∀ s₄ : Shared, s₄ = { s with heap := h₃.push { cls := .type "list_iterator", data := .fields #[.ref b₂, .int 0 0] }, toks := tk₃ } →
        codeAny (model prog w) A (.compLoop (twoFor elt x px iter₁ y py iter₂ ifs scope pos) 1 (.ref h₃.objs.size) (.ref D) cenv) _ s₄) => start_in (fin _ rfl) (wpAny_pyIter_listiter ⟨_, Heap.get?_push_size _ rfl, rfl, rfl⟩ (fin _ rfl))) ?_
    · rintro s₄ rfl
      have hb2 : yss.flatten.toArray.size + us.length ≤ sizeLine := by
        rw [List.size_toArray]
        have e1 : (i + 1) * nn ≤ vs.length * nn := Nat.mul_le_mul_right nn hlt
        rw [Nat.add_mul, Nat.one_mul] at e1
        exact Nat.le_trans (Nat.add_le_add (by assumption) (by assumption)) (Nat.le_trans e1 (by assumption))
      refine loop_in (p v) (Fv v) hh hy hp hDC (Nat.ne_of_lt Dl₃) (Nat.ne_of_lt Cl₃) hb₂D hb₂C (Nat.ne_of_lt hb₂l) hb2 ⟨_, Heap.get?_push_size _ rfl, rfl, rfl⟩ (hl₃.at fun o e => up _ o e) (D₃.at fun o e => up _ o e) n₃ ?_ ?_ ?_
      · intro u s₅ m₅ E' hu hn₅ hm₅ hof hk₅
        exact htests v us u s₅ m₅ E' um hU hu hn₅ (by rw [hof x hxy]; simp) hm₅ fun a o h1 h2 h3 e => by
          have e3 := hk₃ _ _ (kp a o h1 h2 h3 e)
          exact hk₅ a o h1 (Nat.ne_of_lt (Heap.lt_size e3)) h3 (up _ _ e3)
      · intro u s₅ m₅ E' hu hpu hn₅ hm₅ hof hk₅
        exact helt v us u s₅ m₅ E' um hU hu hpu hn₅ (by rw [hof x hxy]; simp) hm₅ fun a o h1 h2 h3 e => by
          have e3 := hk₃ _ _ (kp a o h1 h2 h3 e)
          exact hk₅ a o h1 (Nat.ne_of_lt (Heap.lt_size e3)) h3 (up _ _ e3)
      · intro h₆ tk₆ m₆ ys hn₆ hof hD₆ hF₆ hk₆
        have k₆ : ∀ a o, a ≠ cenv.locals → a ≠ D → h₃.get? a = some o → h₆.get? a = some o := fun a o h1 h3 e => hk₆ a o h1 (Nat.ne_of_lt (Heap.lt_size e)) h3 (up _ _ e)
        have it₆ : h₆.IsListIter I b (i + 1) := it₃.at fun o e => k₆ I o (Ne.symm hCI) (Ne.symm hDI) e
        have Dl₆ : D < h₆.objs.size := by obtain ⟨_, e⟩ := hD₆; exact Heap.lt_size e
        have Il₆ : I < h₆.objs.size := by obtain ⟨_, e, _⟩ := it₆; exact Heap.lt_size e
        have hfl : (yss ++ [ys]).flatten = yss.flatten ++ ys := by simp
        refine wpAny_pure ⟨rfl, vs.length + 1 - (i + 1), (nb8 (by first | assumption | exact Nat.le_of_lt (by assumption)) : vs.length + 1 - (i + 1) < vs.length + 1 - i), h₆, tk₆, m₆, yss ++ [ys], i + 1, rfl, it₆, il₃.at fun o e => k₆ b o hbC hbD e, ?_, hn₆, ?_, ?_, hlt, rfl, fun a o h1 h2 h3 e => k₆ a o h1 h3 (hk₃ _ _ (kp a o h1 h2 h3 e)), Dl₆, Il₆⟩
        · rw [hfl]; simpa using hD₆
        · rw [tk1]; exact Paired.snoc hF ⟨us, hU, hF₆⟩
        · have e1 := hF₆.length
          have e2 : (us.filter (p v)).length ≤ us.length := List.length_filter_le _ _
          rw [hfl, List.length_append, Nat.add_mul, Nat.one_mul]
          exact Nat.add_le_add (by assumption) (Nat.le_trans (Nat.le_of_eq e1.symm) (Nat.le_trans e2 (by assumption)))
  · have hin : i = vs.length := ar7 (by assumption) (by assumption)
    subst hin
    refine W.done _ _ _ ⟨hit, hil⟩ fun h₁ tk₁ hk₁ => ?_
    have kp₁ : ∀ a o, a ≠ I → H.get? a = some o → h₁.get? a = some o := fun a o ha e => hk₁ a o (fun hm => ha (List.mem_singleton.mp hm)) e
    rw [List.take_length] at hF
    exact wpAny_pure (hR h₁ tk₁ m' yss (hC.at' fun o e => kp₁ _ o hCI e) (hD.at fun o e => kp₁ _ o hDI e) hF fun a o h1 h2 h3 e => kp₁ a o h2 (hk a o h1 h2 h3 e))
end
end
section
section
variable {prog : Program} {w : World} {A : Around} {E : Value → Shared → Prop} {s : Shared} {h₀ : Heap} {L : Addr} {m : Str → Option Value} {env : Env}

theorem szlt {h : Heap} {a : Nat} {o : Obj} (e : h.get? a = some o) : @LT.lt Nat _ a h.objs.size := Heap.lt_size e
theorem apart1 {b n m c k : Nat} (e : b < n ∨ m ≤ b) (h1 : c = n + k) (h2 : c < m) : b ≠ c := by
  intro q; subst q
  exact e.elim (fun h => absurd h (Nat.not_lt.mpr (h1 ▸ Nat.le_add_right n k))) (fun h => absurd h2 (Nat.not_lt.mpr h))
theorem neA {a b : Nat} (h : @LT.lt Nat _ a b ∨ @LT.lt Nat _ b a) : a ≠ b := by lia
theorem block2 {elt iter₁ iter₂ : Expr} {x y : Str} {px py : Pos} {ifs : List Expr} {scope : Scope} {cl : List (Str × Addr)} {pos : Pos} {ax : Addr} {vs : List Value} {RR : Value → Addr → Result → Shared → Prop} (nn : Nat) (U : Value → List Value → Prop) (p : Value → Value → Bool) (Fv : Value → Value → Value → Prop)
    (hA : A.mark none = A) (hh : A.handled = none) (hcell : ∀ z ∈ scope.names, z.2 ≠ .cell) (hkind : scope.kind = .function) (hx : scope.names.lookup x = some .local) (hy : scope.names.lookup y = some .local) (hxy : x ≠ y)
    (hs : ∀ C z, foldedSetIterable iter₂ (compEnvC scope cl C env) z = pure z) (hl : s.heap.IsList ax vs.toArray) (hsz : vs.length * nn ≤ sizeLine)
    (hiter : ∀ C D v s₂ m₂ E', s.heap.objs.size ≤ C → s.heap.objs.size ≤ D → C < s₂.heap.objs.size → D < s₂.heap.objs.size → v ∈ vs → s₂.heap.Ns C m₂ → m₂ x = some v → (∀ b o, s.heap.get? b = some o → s₂.heap.get? b = some o) →
      wpAny (model prog w) A (eval iter₂ (compEnvC scope cl C env)) (fun xv s₃ => ∃ b₂ us, xv = .ref b₂ ∧ s₃.heap.IsList b₂ (List.toArray us) ∧ us.length ≤ nn ∧ U v us ∧ (b₂ < s.heap.objs.size ∨ s₂.heap.objs.size ≤ b₂) ∧ Keeps s₂ s₃) E' s₂)
    (htests : ∀ C v us u s₂ m₂ E', s.heap.objs.size ≤ C → v ∈ vs → U v us → u ∈ us → s₂.heap.Ns C m₂ → m₂ x = some v → m₂ y = some u → (∀ b o, s.heap.get? b = some o → s₂.heap.get? b = some o) → Tests prog w A ifs (compEnvC scope cl C env) (fun ok s₃ => ok = p v u ∧ Keeps s₂ s₃) E' s₂)
    (helt : ∀ C v us u s₂ m₂ E', s.heap.objs.size ≤ C → v ∈ vs → U v us → u ∈ us → p v u = true → s₂.heap.Ns C m₂ → m₂ x = some v → m₂ y = some u → (∀ b o, s.heap.get? b = some o → s₂.heap.get? b = some o) → wpAny (model prog w) A (eval elt (compEnvC scope cl C env)) (fun r s₃ => Fv v u r ∧ Keeps s₂ s₃) E' s₂)
    (hRR : ∀ D C h' tk m' (yss : List (List Value)), s.heap.get? D = none → s.heap.get? C = none → D ≠ C → h'.Ns C m' → h'.PlainList D yss.flatten.toArray → Paired (fun v ys => ∃ us, U v us ∧ Paired (Fv v) (us.filter (p v)) ys) vs yss →
      (∀ b o, s.heap.get? b = some o → h'.get? b = some o) → RR (.ref D) C (.ok .next) { s with heap := h', toks := tk }) :
    wpAny (model prog w) A (pyIter (.ref ax)) (fun it s₂ => wpAny (model prog w) A (newList []) (fun acc s₃ => wpAny (model prog w) A (newFunctionEnv scope env.globals cl [] env.qual none .none (some env)) (fun cenv s₄ =>
      codeAny (model prog w) A (.compStart (twoFor elt x px iter₁ y py iter₂ ifs scope pos) 0 it acc { cenv with scope := relabel scope env }) (RR acc cenv.locals) s₄) E s₃) E s₂) E s := by
  have hlt : @LT.lt Nat _ ax s.heap.objs.size := by obtain ⟨_, e, _⟩ := hl; exact Heap.lt_size e
  refine wpAny_pyIter_list hl (wpAny_newObj_type (wpAny_newFunctionEnv hcell (by intro y hy; simp at hy) (fun h₁ hns₁ hsb₁ => ?_) hkind))
  dsimp only at hns₁ hsb₁ ⊢
  generalize hH1 : s.heap.push { cls := .type "list_iterator", dict := none, data := .fields #[.ref ax, .int 0 0] } = H1 at hns₁ hsb₁ ⊢
  generalize hH2 : H1.push { cls := .type "list", dict := none, data := .seq ([] : List Value).toArray } = H2 at hns₁ hsb₁ ⊢
  have z1 : H1.objs.size = s.heap.objs.size + 1 := by rw [← hH1, Heap.size_push]
  have z2 : H2.objs.size = s.heap.objs.size + 2 := by rw [← hH2, Heap.size_push, z1]
  have up1 : ∀ b o, s.heap.get? b = some o → H1.get? b = some o := fun b o e => hH1 ▸ Heap.get?_push_of_some _ e
  have up2 : ∀ b o, H1.get? b = some o → H2.get? b = some o := fun b o e => hH2 ▸ Heap.get?_push_of_some _ e
  have up3 : ∀ b o, b ≠ H2.objs.size → H2.get? b = some o → h₁.get? b = some o := fun b o hb e => hsb₁.extBut b o hb (Heap.get?_push_of_some _ e)
  have iI : H1.get? s.heap.objs.size = some { cls := .type "list_iterator", dict := none, data := .fields #[.ref ax, .int 0 0] } := hH1 ▸ Heap.get?_push_size _ rfl
  have iD : H2.get? H1.objs.size = some { cls := .type "list", dict := none, data := .seq ([] : List Value).toArray } := hH2 ▸ Heap.get?_push_size _ rfl
  have fresh : ∀ a, s.heap.objs.size ≤ a → s.heap.get? a = none := fun a ha => by
    cases e : s.heap.get? a with
    | none => rfl
    | some o' => exact absurd (Heap.lt_size e) (Nat.not_lt.mpr ha)
  have old : ∀ b o, s.heap.get? b = some o → h₁.get? b = some o := fun b o e => up3 b o (neA (by have := szlt e; lia)) (up2 b o (up1 b o e))
  have itA : h₁.get? s.heap.objs.size = some { cls := .type "list_iterator", dict := none, data := .fields #[.ref ax, .int 0 0] } := up3 _ _ (neA (by lia)) (up2 _ _ iI)
  have accA : h₁.PlainList H1.objs.size #[] := ⟨_, up3 _ _ (neA (by lia)) iD⟩
  have it₁ : h₁.IsListIter s.heap.objs.size ax 0 := ⟨_, itA, rfl, rfl⟩
  have hDl : H1.objs.size < h₁.objs.size := by obtain ⟨_, e⟩ := accA; exact Heap.lt_size e
  have kx : ∀ s₂ : Shared, (∀ a o, a ≠ H2.objs.size → a ≠ s.heap.objs.size → a ≠ H1.objs.size → h₁.get? a = some o → s₂.heap.get? a = some o) → ∀ b o, s.heap.get? b = some o → s₂.heap.get? b = some o :=
    fun s₂ hk b o e => by have hb := szlt e; exact hk b o (neA (by lia)) (neA (by lia)) (neA (by lia)) (old b o e)
  have loop : ∀ s₃ : Shared, s₃ = { s with heap := h₁, toks := s.toks + ([] : List (Str × Value)).length } →
      codeAny (model prog w) A (.compLoop (twoFor elt x px iter₁ y py iter₂ ifs scope pos) 0 (.ref s.heap.objs.size) (.ref H1.objs.size) (compEnvC scope cl H2.objs.size env)) (RR (.ref H1.objs.size) H2.objs.size) s₃ := by
    rintro s₃ rfl
    refine loop_out (cenv := compEnvC scope cl H2.objs.size env) (b := ax) (vs := vs) nn U p Fv hA hh (lookup_relabel_local hx) (lookup_relabel_local hy) hxy (by simp [compEnvC, relabel, hkind]) (hs _)
      (neA (by lia) : H1.objs.size ≠ H2.objs.size) (neA (by lia)) (neA (by lia) : H2.objs.size ≠ s.heap.objs.size) (neA (by lia)) (neA (by lia) : ax ≠ H2.objs.size) (neA (by lia)) hsz hDl it₁ (hl.at fun o e => old _ o e) accA hns₁ ?_ ?_ ?_ ?_
    · intro v s₂ m₂ E' hv hn hm hk hD hI
      refine wpAny_mono (hiter H2.objs.size H1.objs.size v s₂ m₂ E' (by show @LE.le Nat _ _ _; lia) (by show @LE.le Nat _ _ _; lia) hn.lt hD hv hn hm (kx s₂ hk)) (fun xv s₃ h₃ => ?_) fun _ _ e => e
      obtain ⟨b₂, us, e1, e2, e3, e4, e5, e6⟩ := h₃
      have hC : @LT.lt Nat _ H2.objs.size s₂.heap.objs.size := hn.lt
      have hD' : @LT.lt Nat _ H1.objs.size s₂.heap.objs.size := hD
      have e5' : @LT.lt Nat _ b₂ s.heap.objs.size ∨ @LE.le Nat _ s₂.heap.objs.size b₂ := e5
      exact ⟨b₂, us, e1, e2, e3, e4, apart1 (by assumption) (by assumption) (by assumption), (apart1 (by assumption) (by assumption) (by assumption) : b₂ ≠ H2.objs.size), e6⟩
    · intro v us u s₂ m₂ E' hv hU hu hn hm1 hm2 hk
      exact htests H2.objs.size v us u s₂ m₂ E' (by show @LE.le Nat _ _ _; lia) hv hU hu hn hm1 hm2 (kx s₂ hk)
    · intro v us u s₂ m₂ E' hv hU hu hpu hn hm1 hm2 hk
      exact helt H2.objs.size v us u s₂ m₂ E' (by show @LE.le Nat _ _ _; lia) hv hU hu hpu hn hm1 hm2 (kx s₂ hk)
    · intro h' tk m' yss hn hpl hP hk
      exact hRR _ _ h' tk m' yss (fresh _ (by show @LE.le Nat _ _ _; lia)) (fresh _ (by show @LE.le Nat _ _ _; lia)) (neA (by lia)) hn hpl hP (kx { s with heap := h' } hk)
  exact codeAny_compStart_list (loop _ rfl) (wpAny_pyIter_listiter it₁ (loop _ rfl))

inductive CompA2 (prog : Program) (w : World) (A : Around) (h₀ : Heap) (L : Addr) (m : Str → Option Value) (env : Env) (elt iter₂ : Expr) (x y : Str) (ifs : List Expr) (scope : Scope) (cl : List (Str × Addr)) (nn : Nat) (U : Value → List Value → Prop) (p : Value → Value → Bool) (Fv : Value → Value → Value → Prop) (z : Str) (Q : Flow → Shared → Prop) (xv : Value) (s₁ : Shared) : Prop
  | mk (news : List (Addr × Obj)) (ax : Addr) (vs : List Value) (e : xv = .ref ax) (hl : s₁.heap.IsList ax vs.toArray) (hsz : vs.length * nn ≤ sizeLine) (F : Fr h₀ L s₁.heap m) (N : News h₀ L s₁.heap news) (hiter : (∀ C D v s₂ m₂ E', s₁.heap.objs.size ≤ C → s₁.heap.objs.size ≤ D → C < s₂.heap.objs.size → D < s₂.heap.objs.size → v ∈ vs → s₂.heap.Ns C m₂ → m₂ x = some v → Fr h₀ L s₂.heap m → News h₀ L s₂.heap news → (∀ b o, s₁.heap.get? b = some o → s₂.heap.get? b = some o) →
        wpAny (model prog w) A (eval iter₂ (compEnvC scope cl C env)) (fun xv s₃ => ∃ b₂ us, xv = .ref b₂ ∧ s₃.heap.IsList b₂ (List.toArray us) ∧ us.length ≤ nn ∧ U v us ∧ (b₂ < s₁.heap.objs.size ∨ s₂.heap.objs.size ≤ b₂) ∧ Keeps s₂ s₃) E' s₂)) (htests : (∀ C v us u s₂ m₂ E', s₁.heap.objs.size ≤ C → v ∈ vs → U v us → u ∈ us → s₂.heap.Ns C m₂ → m₂ x = some v → m₂ y = some u → Fr h₀ L s₂.heap m → News h₀ L s₂.heap news → (∀ b o, s₁.heap.get? b = some o → s₂.heap.get? b = some o) →
        Tests prog w A ifs (compEnvC scope cl C env) (fun ok s₃ => ok = p v u ∧ Keeps s₂ s₃) E' s₂)) (helt : (∀ C v us u s₂ m₂ E', s₁.heap.objs.size ≤ C → v ∈ vs → U v us → u ∈ us → p v u = true → s₂.heap.Ns C m₂ → m₂ x = some v → m₂ y = some u → Fr h₀ L s₂.heap m → News h₀ L s₂.heap news → (∀ b o, s₁.heap.get? b = some o → s₂.heap.get? b = some o) →
        wpAny (model prog w) A (eval elt (compEnvC scope cl C env)) (fun r s₃ => Fv v u r ∧ Keeps s₂ s₃) E' s₂)) (hQ : (∀ D c (yss : List (List Value)) h' tk, Fr h₀ L h' (fun q => if q = z then some (.ref D) else m q) → News h₀ L h' ((D, listOf yss.flatten.toArray c) :: news) → (∀ q ∈ news, q.1 ≠ D) → s₁.heap.get? D = none →
        Paired (fun v ys => ∃ us, U v us ∧ Paired (Fv v) (us.filter (p v)) ys) vs yss → Q .next { s₁ with heap := h', toks := tk })) : CompA2 prog w A h₀ L m env elt iter₂ x y ifs scope cl nn U p Fv z Q xv s₁
theorem compA2 {elt iter₁ iter₂ : Expr} {x y z : Str} {px py pz : Pos} {ifs : List Expr} {scope : Scope} {cl : List (Str × Addr)} {pos spos : Pos} {Q : Flow → Shared → Prop} (nn : Nat) (U : Value → List Value → Prop) (p : Value → Value → Bool) (Fv : Value → Value → Value → Prop) (F₀ : Fr h₀ L s.heap m)
    (hsw : swapsWith (twoFor elt x px iter₁ y py iter₂ ifs scope pos) (some (.Name z pz)) spos.line env = pure true) (hL : env.locals = L)
    (hA : A.mark none = A) (hh : A.handled = none) (hclos : closureFor scope env = pure cl) (hcell : ∀ y ∈ scope.names, y.2 ≠ .cell) (hkind : scope.kind = .function)
    (hnames : ∀ y ∈ scope.names, y.2 = .local → scope.names.lookup y.1 = some .local) (hx : scope.names.lookup x = some .local) (hy : scope.names.lookup y = some .local) (hxy : x ≠ y)
    (hz : env.kindOf z = some .local) (hp : (env.scope.kind == .class || (env.scope.kind == .module && env.locals != env.globals)) = false)
    (hs : ∀ x, foldedSetIterable iter₁ env x = pure x) (hs₂ : ∀ C z, foldedSetIterable iter₂ (compEnvC scope cl C env) z = pure z)
    (h : wpAny (model prog w) A (eval iter₁ env) (CompA2 prog w A h₀ L m env elt iter₂ x y ifs scope cl nn U p Fv z Q) E s) :
    wpAny (model prog w) A (exec (.Assign [.Name z pz] (twoFor elt x px iter₁ y py iter₂ ifs scope pos) spos) env) Q E s := by
  clear F₀
  subst hL
  rw [exec_Assign_Name_used _ _ _ _ hsw]
  refine wpAny_bind (wpAny_standAt (wpAny_bind ?_))
  show wpAny _ A (do let _ ← comprehension (twoFor elt x px iter₁ y py iter₂ ifs scope pos) scope env _ (newList []) false (eval iter₁ env) (some (assign (.Name z pz) env))) _ _ s
  refine wpAny_bind (wpAny_mono (wpAny_comprehension_free (use := some (assign (.Name z pz) env)) (Q := fun _ s' => Q .next s') rfl hs hclos hkind hnames
    (wpAny_mono h (fun xv s₁ h₁ => ?_) fun _ _ e => e)) (fun _ s' hq => wpAny_pure (wpAny_pure hq)) fun _ _ e => e)
  obtain ⟨news, ax, vs, rfl, hl, hsz, F, N, hiter, htests, helt, hQ⟩ := h₁
  refine block2 (RR := fun acc C => compPost (model prog w) A E (some (assign (.Name z pz) env)) (fun _ s' => Q .next s') acc C) nn U p Fv hA hh hcell hkind hx hy hxy hs₂ hl hsz
    (fun C D v s₂ m₂ E' h1 h2 h3 h4 hv hn hm hk => hiter C D v s₂ m₂ E' h1 h2 h3 h4 hv hn hm (F.keeps hk) (N.grown hk) hk)
    (fun C v us u s₂ m₂ E' h1 hv hU hu hn hm1 hm2 hk => htests C v us u s₂ m₂ E' h1 hv hU hu hn hm1 hm2 (F.keeps hk) (N.grown hk) hk)
    (fun C v us u s₂ m₂ E' h1 hv hU hu hp hn hm1 hm2 hk => helt C v us u s₂ m₂ E' h1 hv hU hu hp hn hm1 hm2 (F.keeps hk) (N.grown hk) hk) ?_
  intro D C h' tk m' yss hD hC hDC hnC ⟨c, hc⟩ hP hk
  have hLl := F.ns.lt
  obtain ⟨oL, _, _, hL, _⟩ := F.ns
  have hLC : env.locals ≠ C := by intro e; rw [e, hC] at hL; cases hL
  have hLD : env.locals ≠ D := by intro e; rw [e, hD] at hL; cases hL
  show wpAny _ A (assign (.Name z pz) env (.ref D)) _ _ _
  refine wpAny_assign_Name (wpAny_storeName_local hz (F.ns.at' fun o e => hk _ o e) (fun h₂ hn₂ hs₂ => ?_) hp)
  refine ⟨m', hnC.sameBut hs₂ (Ne.symm hLC), fun h₃ hs₃ => ?_⟩
  have keep : ∀ b o, b ≠ env.locals → s₁.heap.get? b = some o → h₃.get? b = some o := fun b o hbL e => hs₃.extBut b o (by rintro rfl; rw [hC] at e; cases e) (hs₂.extBut b o hbL (hk b o e))
  have Fn : Fr h₀ env.locals h₃ (fun q => if q = z then some (.ref D) else m q) :=
    ⟨hn₂.sameBut hs₃ hLC, fun b o e => keep b o (Nat.ne_of_lt (Nat.lt_of_lt_of_le (Heap.lt_size e) F.above)) (F.keep b o e), F.above⟩
  refine hQ D c yss h₃ _ Fn ?_ (fun q hq e => by rw [← e, (N q hq).1] at hD; cases hD) hD hP
  intro q hq
  rcases List.mem_cons.mp hq with rfl | hq
  · refine ⟨hs₃.extBut D _ hDC (hs₂.extBut D _ (Ne.symm hLD) (by simpa using hc)), fun e => hLD e.symm, ?_⟩
    cases e : h₀.get? D with
    | none => rfl
    | some o' => rw [F.keep _ _ e] at hD; cases hD
  · exact ⟨keep _ _ (N q hq).2.1 (N q hq).1, (N q hq).2.1, (N q hq).2.2⟩
end
end
section
section
variable {α : Type} {prog : Program} {w : World} {A : Around} {E : Value → Shared → Prop} {s : Shared}
theorem raiseHandled {cls msg : String} {Q : α → Shared → Prop} {e1 : Addr} {o1 : Obj} {vs1 : Array Value} (hp : PlainExc cls) (hh : A.handled = some (.ref e1)) (h1 : s.heap.get? e1 = some o1) (d1 : o1.data = .fields vs1) (c1 : vs1[2]? = some .none)
    (h : ∀ h' tk e, Heap.NewExcOf s.heap h' e cls → E (.ref e) { s with heap := h', toks := tk }) :
    wpAny (model prog w) A (raiseErrorWords cls msg : Sem α) Q E s := by
  delta raiseErrorWords
  refine wpAny_bind (wpAny_mkText (wpAny_bind ?_))
  delta newExc newTuple
  refine wpAny_bind (wpAny_newObj_type ?_)
  refine wpAny_bind (m := firstArgMember _ _) (wpAny_of_eq (a := Value.none) (by simp only [firstArgMember, hp.first]; rfl) ?_)
  rw [hp.own]
  refine wpAny_newObj_type ?_
  delta raiseNew
  refine wpAny_bind (wpAny_handled ?_)
  rw [hh]
  dsimp only
  have hlt : @LT.lt Nat _ e1 s.heap.objs.size := Heap.lt_size h1
  have hne : (Value.ref e1 != Value.ref (s.heap.push { cls := Value.type "tuple", data := Data.seq #[Value.str (Str.ofString msg) s.toks] }).objs.size) = true := by
    rw [bne_iff_ne]
    intro e
    have e := Value.ref.inj e
    rw [Heap.size_push] at e
    have e' : @Eq Nat e1 (s.heap.objs.size + 1) := e
    omega
  rw [if_pos hne]
  have hent : entryFor table "proto.unchain" = some Builtin.«proto.unchain» := entryFor_of_tree (by kernel_rfl)
  refine wpAny_bind (wpAny_holding (wpAny_runValue (codeAny_builtin hent ?_)))
  delta Builtin.«proto.unchain»
  refine wpAny_bind (wpAny_field (Heap.get?_push_of_some _ (Heap.get?_push_of_some _ h1)) d1 c1 ?_)
  rw [if_pos (show (Value.none == Value.none) = true from by decide)]
  refine wpAny_pure ?_
  have hsz : (s.heap.push { cls := Value.type "tuple", data := Data.seq #[Value.str (Str.ofString msg) s.toks] }).objs.size = s.heap.objs.size + 1 := Heap.size_push ..
  refine wpAny_bind ?_
  delta updateField
  refine wpAny_bind (wpAny_load (Heap.get?_push_size _ rfl) ?_)
  dsimp only
  rw [if_pos (by simp)]
  refine wpAny_update (Heap.get?_push_size _ rfl) (wpAny_throw ?_)
  refine h _ _ _ ⟨fun b o hb => ?_, Heap.get?_none_of_le (by simp), _, _, Heap.get?_update_self _ (Heap.get?_push_size _ rfl) rfl, rfl, rfl, rfl⟩
  have hb' : @LT.lt Nat _ b s.heap.objs.size := Heap.lt_size hb
  refine (Heap.get?_update_ne _ _ _ _ (fun e => ?_)).trans (Heap.get?_push_of_some _ (Heap.get?_push_of_some _ hb))
  have e' : @Eq Nat b (s.heap.objs.size + 1) := by rw [← hsz]; first | exact e | exact e.symm
  omega
end
end
section
theorem three_way {w : World} {p : Program} {loose : List Str} {mean : ExcName → Option Value} {mg mb : Str → Option Value} (x y : Str) (tx ty : Tok)
    (dp un : Nat) (gd : Option (List Code)) (cn : Str) (cs : Scope) (a : Addr) (ccd : Value) (cl : List (Str × Addr)) (outer : List Env) (A₀ : Around) (base h₀ : Heap) (L : Addr) (m : Str → Option Value) (s : Shared) (Q E : Value → Shared → Prop)
    (B : Below A₀ base outer h₀) (F : Fr h₀ L s.heap m) (X : (Mine.hd.heap_1 w.params).In h₀) (T : Top p loose mean mg mb h₀) (hk : cs.kind = .function) (hd : dp + 1 < recursionLimit) (hu : un + 8 < cLine)
    (hret : ∀ t h' tk', (∀ b o, s.heap.get? b = some o → h'.get? b = some o) → Q (.int (b2i (decide (y.cps.toList < x.cps.toList)) - b2i (decide (x.cps.toList < y.cps.toList))) t) { s with heap := h', toks := tk' }) :
    wpAny (model PySem.Challenge.rw_ik0127_01.row.prog w) (ktrTop dp un gd cn cs L a ccd cl outer) (call (.ref 251) [.str x tx, .str y ty]) Q E s := by
  revert X T; k_fill; intro X T
  refine wpAny_call ?_
  k_dflt (refine' Mine.enterP ?k1 ?k2 ?k3 ?k5 ?kA ?kF ?kK ?k6 ?k7 ?k8 ?k9 ?kB ?_ ?c2 ?c3 ?c4 ?c5; (case kA | kF => exact rfl); (case kK => assumption); (case k1 | k2 | k3 | k5 => k_asm); (case k6 | k7 => k_is); (case k8 => ktr_room); (case k9 => exact BindsTo.of_eq rfl); (case c5 => decide); (case kB => exact locs rfl); (case c2 | c3 | c4 => exact rfl); k_whole; intro _ _ _ _ _ _ _; (try dsimp only); (try k_fold))
  k_steps
  exact hret _ _ _ (Fr.keep (by assumption))
end
section
/-- what _law_fits answers -/
noncomputable def fitsB (fo sg : Str) (W : Int) : Bool :=
  decide ((Txt.split fo (Str.ofString "\n")).filter (fun x => decide (W < x.length)) = []) && decide ((Txt.split fo (Str.ofString "\n")).dropLast.filter (fun x => Txt.item x (-1) != sg) = [])
theorem strValues_is {l : List (Str × Tok)} {v : Value} (h : v ∈ strValues l) : ∃ x t, v = .str x t ∧ x ∈ l.map (·.1) := by
  unfold strValues at h
  obtain ⟨q, hq, rfl⟩ := List.mem_map.mp h
  exact ⟨_, _, rfl, List.mem_map.mpr ⟨q, hq, rfl⟩⟩
theorem strValues_len (l : List (Str × Tok)) : (strValues l).length = l.length := by unfold strValues; exact List.length_map _
theorem fits {w : World} {p : Program} {loose : List Str} {mean : ExcName → Option Value} {mg mb : Str → Option Value} (fo sg : Str) (W : Int) (t1 t2 t3 : Tok)
    (dp un : Nat) (gd : Option (List Code)) (cn : Str) (cs : Scope) (a : Addr) (ccd : Value) (cl : List (Str × Addr)) (outer : List Env) (A₀ : Around) (base h₀ : Heap) (L : Addr) (m : Str → Option Value) (s : Shared) (Q E : Value → Shared → Prop)
    (hfo : fo.length ≤ 1000) (hok : PyData.strOk fo = true) (hne1 : ∀ r ∈ Txt.split fo (Str.ofString "\n"), 1 ≤ r.length) (hsg : sg.length = 1) (hW0 : 0 ≤ W) (hW1 : W ≤ 1000)
    (B : Below A₀ base outer h₀) (F : Fr h₀ L s.heap m) (X : (Mine.hd.heap_1 w.params).In h₀) (T : Top p loose mean mg mb h₀) (hk : cs.kind = .function) (hd : dp + 20 < recursionLimit) (hu : un + 400 < cLine)
    (hret : ∀ h' tk', (∀ b o, s.heap.get? b = some o → h'.get? b = some o) → Q (.bool (fitsB fo sg W)) { s with heap := h', toks := tk' }) :
    wpAny (model PySem.Challenge.rw_ik0127_01.row.prog w) (ktrTop dp un gd cn cs L a ccd cl outer) (call (.ref 294) [.str fo t1, .str sg t2, .int W t3]) Q E s := by
  revert X T; k_fill; intro X T
  refine wpAny_call ?_
  k_dflt (refine' Mine.enterC ?k1 ?k2 ?k3 ?k5 ?kA ?kF ?kK ?k6 ?k7 ?k8 ?k9 ?kB ?kD ?_ ?c2 ?c3 ?c4; (case kA | kF => exact rfl); (case kK => assumption); (case k1 | k2 | k3 | k5 => k_asm); (case k6 | k7 => k_is); (case k8 => ktr_room); (case k9 => exact BindsTo.of_eq rfl); (case kB => exact rfl); (case kD => decide +kernel); (case c2 | c3 | c4 => exact rfl); k_whole; intro _ _ _ _ _ Nc Yc _ _ _; k_cells Yc; (try dsimp only [List.cons_append, List.nil_append] at Nc); (try dsimp only); (try k_fold))
  k_steps
  rename_i l _ _ hspl hsa hlen hil _ _ _ _
  apply Mine.compA (fun v => decide (W < (strOf v).length)) (fun v y => y = v)
  ((case F₀ => k_asm); (case hsw | hL | hh | hclos => with_unfolding_all rfl); (case hcell => decide); (case hkind => with_unfolding_all rfl); (case hnames => decide); (case hx | hy | hp => with_unfolding_all rfl); (case hs => intro _; with_unfolding_all rfl))
  k_steps
  refine ⟨_, _, _, rfl, by is_list, ?sz, by k_asm, by k_asm, ?tests, ?elt, ?rest⟩
  case sz =>
    have e := len_le_of_split hspl
    rw [strValues_len]
    exact Nat.le_trans (Nat.le_trans e (Nat.add_le_add_right hfo 2)) (by decide)
  case tests =>
    intro C v s₂ m₂ E' hC hv hn hm F₂ N₂ hk₂
    obtain ⟨x, t, hx, hxm⟩ := strValues_is hv
    subst hx
    have hxl : x.length ≤ 1000 := Nat.le_trans (hlen x hxm) hfo
    k_steps
    exact ⟨_, _, rfl, fun _ _ e => e⟩
  case elt => 
    intro C v s₂ m₂ E' hC hv hp hn hm F₂ N₂ hk₂
    obtain ⟨x, t, hx, hxm⟩ := strValues_is hv
    subst hx
    k_steps
    exact ⟨_, _, rfl, fun _ _ e => e⟩
  case rest => 
    intro D c ys h' tk F N hne hDn hP
    have ey := paired_eq hP
    subst ey
    clear hP
    have hA1 := strsAre_filter (fun v => decide (W < (strOf v).length)) (fun x => decide (W < x.length)) (fun _ _ => rfl) hsa
    have hO : OkStrs (l.map fun x => x.1) := by rw [hspl]; exact split_ok hok
    have hO1 := hO.filter fun x => decide (W < x.length)
    k_steps
    apply Mine.compA (fun v => Txt.item (strOf v) (-1) != sg) (fun v y => y = v)
    ((case F₀ => k_asm); (case hsw | hL | hh | hclos => with_unfolding_all rfl); (case hcell => decide); (case hkind => with_unfolding_all rfl); (case hnames => decide); (case hx | hy | hp => with_unfolding_all rfl); (case hs => intro _; with_unfolding_all rfl))
    k_steps
    refine ⟨_, _, (strValues l).dropLast, rfl, by rw [← pick_init]; is_list, ?sz2, by k_asm, by k_asm, ?tests2, ?elt2, ?rest2⟩
    case sz2 =>
      have e := len_le_of_split hspl
      rw [List.length_dropLast, strValues_len]
      exact Nat.le_trans (Nat.sub_le _ _) (Nat.le_trans (Nat.le_trans e (Nat.add_le_add_right hfo 2)) (by decide))
    case tests2 =>
      intro C v s₂ m₂ E' hC hv hn hm F₂ N₂ hk₂
      obtain ⟨x, t, hx, hxm⟩ := strValues_is (List.dropLast_subset _ hv)
      subst hx
      have hxl : x.length ≤ 1000 := Nat.le_trans (hlen x hxm) hfo
      have hx1 : 1 ≤ x.length := hne1 x (hspl ▸ hxm)
      k_steps
      exact ⟨_, _, rfl, fun _ _ e => e⟩
    case elt2 => 
      intro C v s₂ m₂ E' hC hv hp hn hm F₂ N₂ hk₂
      obtain ⟨x, t, hx, hxm⟩ := strValues_is (List.dropLast_subset _ hv)
      subst hx
      k_steps
      exact ⟨_, _, rfl, fun _ _ e => e⟩
    case rest2 => 
      intro D2 c2 ys2 h2' tk2 F2 N2 hne2 hDn2 hP2
      have ey := paired_eq hP2
      subst ey
      clear hP2
      have hA2 := strsAre_filter (fun v => Txt.item (strOf v) (-1) != sg) (fun x => Txt.item x (-1) != sg) (fun _ _ => rfl) (strsAre_dropLast hsa)
      have hO2 := (hO.sub (List.dropLast_subset _)).filter (fun x => Txt.item x (-1) != sg)
      k_steps
      all_goals refine toV (congrArg Value.bool ?_) (hret _ _ (Fr.keep (by assumption)))
      all_goals unfold fitsB
      all_goals rw [← hspl]
      all_goals (first | (rename decide _ = true => hb; rw [hb]; rfl) | (rename decide _ = false => hb; rw [hb]; rfl))
end
section
theorem mul_lo (z : Int) : -(2 ^ 63 : Int) ≤ 1 + z.fmod 2 := Int.le_trans (by decide) (Int.add_le_add_left (Int.fmod_nonneg_of_pos z (b := 2) (by decide)) 1)
theorem mul_hi (z : Int) : 1 + z.fmod 2 ≤ ((1048576 : Nat) : Int) := Int.le_trans (Int.add_le_add_left (Int.le_of_lt (Int.fmod_lt_of_pos z (b := 2) (by decide))) 1) (by decide)
local macro_rules | `(tactic| walk_at "binaryOp Mult str int") => `(tactic| walk_at "M stop")
theorem fmod4 (q : Int) : q.fmod 4 = 0 ∨ q.fmod 4 = 1 ∨ q.fmod 4 = 2 ∨ q.fmod 4 = 3 := by
  have h0 := Int.fmod_nonneg_of_pos q (b := 4) (by decide)
  have h4 := Int.fmod_lt_of_pos q (b := 4) (by decide)
  revert h0 h4
  generalize q.fmod 4 = z
  intro h0 h4
  obtain ⟨n, rfl⟩ := Int.eq_ofNat_of_zero_le h0
  rcases n with _ | _ | _ | _ | n
  · exact .inl rfl
  · exact .inr (.inl rfl)
  · exact .inr (.inr (.inl rfl))
  · exact .inr (.inr (.inr rfl))
  · exact absurd (Int.ofNat_lt.mp h4) (Nat.not_lt_of_le (Nat.le_add_left 4 n))
theorem mul_room {l b : Nat} {z : Int} (h : 0 ≤ 1 + z.fmod 2 → (l : Int) = ((1 : Nat) : Int) * (1 + z.fmod 2)) (hb : b ≤ 1) : l + b ≤ 16777216 := by
  have h1 := h (Int.le_trans (by decide) (Int.add_le_add_left (Int.fmod_nonneg_of_pos z (b := 2) (by decide)) 1))
  rw [show ((1 : Nat) : Int) = 1 from rfl, Int.one_mul] at h1
  have h2 : (l : Int) ≤ ((1048576 : Nat) : Int) := h1 ▸ mul_hi z
  exact Nat.le_trans (Nat.add_le_add (Int.ofNat_le.mp h2) hb) (by decide)
/-- the words of _law_words -/
noncomputable def behindOf (q : Int) (sg ot : Str) : Str := [sg, sg, ot, Str.empty].getD ((q.fdiv 2).fmod 4).toNat Str.empty
noncomputable def wordAt (q : Int) (sg ot : Str) (k : Nat) : Str := Txt.mul (Txt.item (Str.ofString "abcde") (0 + (k : Int) * 1)) (1 + q.fmod 2) ++ behindOf q sg ot
noncomputable def wordsTo (ns : List Int) (sg ot : Str) : Nat → List Str
  | 0 => []
  | i + 1 => wordsTo ns sg ot i ++ [wordAt (ns.getD (0 + (i : Int) * 1).toNat 0) sg ot i]
theorem wordsTo_succ (ns : List Int) (sg ot : Str) (i : Nat) : wordsTo ns sg ot (i + 1) = wordsTo ns sg ot i ++ [wordAt (ns.getD (0 + (i : Int) * 1).toNat 0) sg ot i] := rfl
theorem wordsTo_len (ns : List Int) (sg ot : Str) : ∀ i, (wordsTo ns sg ot i).length = i
  | 0 => rfl
  | i + 1 => by rw [wordsTo_succ, List.length_append, wordsTo_len ns sg ot i]; rfl
theorem words {w : World} {p : Program} {loose : List Str} {mean : ExcName → Option Value} {mg mb : Str → Option Value} (an : Addr) (vs : List Value) (ns : List Int) (sg ot : Str) (t2 t3 : Tok)
    (dp un : Nat) (gd : Option (List Code)) (cn : Str) (cs : Scope) (a : Addr) (ccd : Value) (cl : List (Str × Addr)) (outer : List Env) (A₀ : Around) (base h₀ : Heap) (L : Addr) (m : Str → Option Value) (s : Shared) (Q E : Value → Shared → Prop)
    (hl : s.heap.IsList an vs.toArray) (hi : IntsAre vs ns) (hn : ns.length = 5) (hsg : sg.length = 1) (hot : ot.length = 1)
    (B : Below A₀ base outer h₀) (F : Fr h₀ L s.heap m) (X : (Mine.hd.heap_1 w.params).In h₀) (T : Top p loose mean mg mb h₀) (hk : cs.kind = .function) (hd : dp + 20 < recursionLimit) (hu : un + 400 < cLine)
    (hret : ∀ D ys c h' tk', StrsAre (Array.toList ys) (wordsTo ns sg ot 5) → (∀ b o, s.heap.get? b = some o → h'.get? b = some o) → s.heap.get? D = none → h'.get? D = some (PySem.W.listOf ys c) → Q (.ref D) { s with heap := h', toks := tk' }) :
    wpAny (model PySem.Challenge.rw_ik0127_01.row.prog w) (ktrTop dp un gd cn cs L a ccd cl outer) (call (.ref 258) [.ref an, .str sg t2, .str ot t3]) Q E s := by
  revert X T; k_fill; intro X T
  refine wpAny_call ?_
  k_dflt (refine' Mine.enterP ?k1 ?k2 ?k3 ?k5 ?kA ?kF ?kK ?k6 ?k7 ?k8 ?k9 ?kB ?_ ?c2 ?c3 ?c4 ?c5; (case kA | kF => exact rfl); (case kK => assumption); (case k1 | k2 | k3 | k5 => k_asm); (case k6 | k7 => k_is); (case k8 => ktr_room); (case k9 => exact BindsTo.of_eq rfl); (case c5 => decide); (case kB => exact locs rfl); (case c2 | c3 | c4 => exact rfl); k_whole; intro _ _ _ _ _ _ _; (try dsimp only); (try k_fold))
  k_steps
  apply Mine.forRT (h₀ := s.heap) (fun c : Addr × Array Value × Nat => [(c.1, PySem.W.listOf c.2.1 c.2.2)]) (fun c => [(Str.ofString "words", .ref c.1)]) [Str.ofString "words", Str.ofString "k", Str.ofString "behind"] (fun i c => s.heap.get? c.1 = none ∧ StrsAre c.2.1.toList (wordsTo ns sg ot i))
  ((case hh => with_unfolding_all rfl); (case hs => intro _; with_unfolding_all rfl); (case hE => passes_own); (case ht => intro _ _; with_unfolding_all rfl))
  k_steps
  refine ⟨_, 0, 5, 1, 5, _, _, _, ⟨_, #[], 0⟩, _, _, rfl, by k_asm, rfl, rfl, by k_asm, by k_asm, (by intro i c _; walk_at "M noiter"), (by walk_at "M noiter"), (by walk_at "M ps"), ⟨?hnone, .nil⟩, ?turn, ?done⟩
  case hnone => exact (‹News _ _ _ _› _ (.head _)).2.2
  case turn =>
    intro i; refine Mine.all_3 ?_; intro D ys cc t u h tk own hi5 hJ0 hoff F N
    obtain ⟨hD, hxs⟩ := hJ0
    dsimp only [List.cons_append, List.nil_append] at N
    dsimp only [List.map_cons, List.map_nil] at hxs F hoff
    have hsz : ys.size ≤ 16777216 := by rw [strsAre_size hxs, wordsTo_len]; lia
    have h0 : (0 : Int) ≤ 0 + (i : Int) * 1 := by lia
    have h5 : (0 : Int) + (i : Int) * 1 < 5 := by lia
    k_steps
    generalize hq : ns.getD (0 + (i : Int) * 1).toNat 0 = q
    have hm4 := fmod4 (q.fdiv 2)
    have hfl : (PySem.W.listOf #[] 0).cls = (PySem.W.listOf #[] 0).cls := rfl
    refine KTb.item_list (ws := [sg, sg, ot, Str.empty]) (by is_list) (.cons _ _ (.cons _ _ (.cons _ _ (.cons _ _ .nil)))) (Int.fmod_nonneg_of_pos _ (by decide)) (Int.fmod_lt_of_pos _ (by decide)) (Int.lt_trans (Int.fmod_lt_of_pos _ (by decide)) (by decide)) ?_
    intro tb hb4
    generalize hbh : [sg, sg, ot, Str.empty].getD ((q.fdiv 2).fmod 4).toNat Str.empty = bh
    have hbl : bh.length ≤ 1 := by
      rw [← hbh]
      rcases hm4 with e | e | e | e <;> rw [e] <;> first | exact Nat.le_of_eq hsg | exact Nat.le_of_eq hot | exact Nat.zero_le _
    k_steps
    refine KXi.mul (n := 1) (by assumption) (by decide) (Mine.mul_lo _) (Mine.mul_hi _) ?_
    intro _ _ _ _
    rename_i hml
    have hmr := Mine.mul_room hml hbl
    k_steps
    apply Mine.turnEnd (⟨D, ys.push ?v, cc + 1⟩)
    ((case fr | nw => k_asm); (case own' | led => walk_at "M sub"); (case hps => walk_at "M ps"); (case off => walk_at "M off"))
    refine ⟨hD, ?_⟩
    rw [wordsTo_succ]
    subst hbh
    subst hq
    exact strsAre_push hxs
  case done =>
    refine Mine.all_3 ?_; intro D ys cc u h tk hJ0 F N
    obtain ⟨hD, hxs⟩ := hJ0
    dsimp only [List.cons_append, List.nil_append] at N
    dsimp only at hxs F hD
    k_steps
    exact hret _ _ _ _ _ hxs (Fr.keep (by k_asm)) hD (N _ (.head _)).1
end
section
/-- the stretches of _law_widest -/
noncomputable def sizeStep (sg : Str) (ss : List Int) (x : Str) : List Int :=
  let ss' := ss.dropLast ++ [ss.getLastD 0 + (1 + x.length)]
  if Txt.item x (-1) == sg then ss' ++ [0] else ss'
noncomputable def sizesOf (sg : Str) (ws : List Str) : List Int := ws.foldl (sizeStep sg) [-1]

section
variable {prog : Program} {w : World} {A : Around} {E : Value → Shared → Prop} {s : Shared} {h₀ : Heap} {L D : Addr} {m : Str → Option Value} {news news' : List (Addr × Obj)}
theorem setL_last (pre : List Value) (x v : Value) : ki_setL (pre ++ [x]) pre.length v = some (pre ++ [v]) := by
  induction pre with
  | nil => rfl
  | cons a r ih => show (match ki_setL (r ++ [x]) r.length v with | some q => some (a :: q) | none => none) = _; rw [ih]; rfl
theorem getItem_last {pre : List Value} {v : Value} {n : Nat} {t : Tok} {Q : Value → Shared → Prop} (N : News h₀ L s.heap news) (hm : (D, PySem.W.listOf (pre ++ [v]).toArray n) ∈ news) (h : Q v s) :
    wpAny (model prog w) A (getItem (.ref D) (.int (-1) t)) Q E s := by
  have hl : s.heap.IsList D (pre ++ [v]).toArray := ⟨_, (N _ hm).1, rfl, n, rfl⟩
  refine wpAny_getItem_list_neg hl (by decide) ?_ (by decide) ?_ h
  · simp only [List.size_toArray, List.length_append, List.length_singleton]; lia
  · have e : ((-1 : Int) + ((pre ++ [v]).toArray.size : Nat)).toNat = pre.length := by
      simp only [List.size_toArray, List.length_append, List.length_singleton]; lia
    rw [e]; simp
theorem setItem_last {pre : List Value} {x v : Value} {n : Nat} {t : Tok} {Q : Unit → Shared → Prop} (F : Fr h₀ L s.heap m) (N : News h₀ L s.heap news) (U : Upd D (PySem.W.listOf (pre ++ [x]).toArray n) (PySem.W.listOf (pre ++ [v]).toArray n) news news')
    (h : ∀ h', Fr h₀ L h' m → News h₀ L h' news' → Q () { s with heap := h' }) : wpAny (model prog w) A (setItem (.ref D) (.int (-1) t) v) Q E s := by
  refine ki_setNeg F N (by decide) (by decide) (j := pre.length) ?_ ?_ U h
  · have := PySem.seqIndex_neg (k := -1) (n := (pre ++ [x]).toArray.size) (by decide) (by simp only [List.size_toArray, List.length_append, List.length_singleton]; lia)
    rw [this]
    congr 1
    simp only [List.size_toArray, List.length_append, List.length_singleton]; lia
  · exact setL_last pre x v
end
local macro_rules | `(tactic| walk_at "getItem ref int") => `(tactic| (k_here; k_dflt (refine Mine.getItem_last (by k_asm) (by k_mem) ?_)))
local macro_rules | `(tactic| walk_at "setItem ref int") => `(tactic| walk_at "M stop")
theorem stopInt {P : Tok → Prop} {t : Tok} (h : ∀ t, P t) : P t := h t

theorem take_step23 {vs : List Value} {ws : List Str} (h : StrsAre vs ws) : ∀ {i : Nat} {x : Str} {t : Tok}, vs[i]? = some (.str x t) → ws.take (i + 1) = ws.take i ++ [x] := by
  induction h with
  | nil => intro i x t e; simp at e
  | cons y u r ih =>
    intro i x t e
    cases i with
    | zero => simp at e; simp [e.1]
    | succ i => simp at e; simp [ih e]
theorem sizeStep_snoc (sg : Str) (ss : List Int) (z : Int) (x : Str) : sizeStep sg (ss ++ [z]) x = if Txt.item x (-1) == sg then ss ++ [z + (1 + x.length)] ++ [0] else ss ++ [z + (1 + x.length)] := by
  unfold sizeStep
  simp
theorem widest {w : World} {p : Program} {loose : List Str} {mean : ExcName → Option Value} {mg mb : Str → Option Value} (an : Addr) (vs : List Value) (ws : List Str) (sg : Str) (t2 : Tok)
    (dp un : Nat) (gd : Option (List Code)) (cn : Str) (cs : Scope) (a : Addr) (ccd : Value) (cl : List (Str × Addr)) (outer : List Env) (A₀ : Around) (base h₀ : Heap) (L : Addr) (m : Str → Option Value) (s : Shared) (Q E : Value → Shared → Prop)
    (hl : s.heap.IsList an vs.toArray) (hi : StrsAre vs ws) (hn : ws.length = 5) (hw : ∀ x ∈ ws, 1 ≤ x.length ∧ x.length ≤ 3) (hsg : sg.length = 1)
    (B : Below A₀ base outer h₀) (F : Fr h₀ L s.heap m) (X : (Mine.hd.heap_1 w.params).In h₀) (T : Top p loose mean mg mb h₀) (hk : cs.kind = .function) (hd : dp + 20 < recursionLimit) (hu : un + 400 < cLine)
    (hret : ∀ (r : Int) t h' tk', ((sizesOf sg ws).max?).getD 0 = r → (∀ b o, s.heap.get? b = some o → h'.get? b = some o) → Q (.int r t) { s with heap := h', toks := tk' }) :
    wpAny (model PySem.Challenge.rw_ik0127_01.row.prog w) (ktrTop dp un gd cn cs L a ccd cl outer) (call (.ref 265) [.ref an, .str sg t2]) Q E s := by
  revert X T; k_fill; intro X T
  refine wpAny_call ?_
  k_dflt (refine' Mine.enterP ?k1 ?k2 ?k3 ?k5 ?kA ?kF ?kK ?k6 ?k7 ?k8 ?k9 ?kB ?_ ?c2 ?c3 ?c4 ?c5; (case kA | kF => exact rfl); (case kK => assumption); (case k1 | k2 | k3 | k5 => k_asm); (case k6 | k7 => k_is); (case k8 => ktr_room); (case k9 => exact BindsTo.of_eq rfl); (case c5 => decide); (case kB => exact locs rfl); (case c2 | c3 | c4 => exact rfl); k_whole; intro _ _ _ _ _ _ _; (try dsimp only); (try k_fold))
  k_steps
  apply Mine.forT (h₀ := s.heap) (fun c : Addr × List Value × Int × Tok × Nat => [(c.1, PySem.W.listOf (List.toArray (c.2.1 ++ [.int c.2.2.1 c.2.2.2.1])) c.2.2.2.2)]) (fun c => [(Str.ofString "sizes", .ref c.1)]) [Str.ofString "sizes", Str.ofString "word"] (fun i c => s.heap.get? c.1 = none ∧ c.2.1.length ≤ i ∧ ∃ ss, IntsAre c.2.1 ss ∧ ss ++ [c.2.2.1] = (ws.take i).foldl (sizeStep sg) [-1])
  ((case hh => with_unfolding_all rfl); (case hs => intro _; with_unfolding_all rfl); (case hE => passes_own); (case ht => intro _ _; with_unfolding_all rfl))
  k_steps
  refine ⟨an, vs, ⟨_, [], -1, _, 0⟩, _, _, rfl, hl.at (fun o e => Fr.keep (by k_asm) _ _ e), ?hne, by k_asm, by k_asm, (by intro i c _; walk_at "M noiter"), (by walk_at "M noiter"), (by walk_at "M ps"), ⟨?hnone, Nat.zero_le _, [], .nil, rfl⟩, ?turn, ?done⟩
  case hne =>
    intro e
    obtain ⟨_, e', _⟩ := hl
    have h1 := Heap.lt_size e'
    have h2 := (‹Fr s.heap _ _ _› : Fr s.heap _ _ _).above
    rw [e] at h1
    exact absurd (Nat.lt_of_lt_of_le h1 h2) (Nat.lt_irrefl _)
  case hnone => exact (‹News _ _ _ _› _ (.head _)).2.2
  case turn =>
    intro i; refine Mine.all_5 ?_; intro D ys z tz cc v u h tk own hv hJ0 hoff F N
    obtain ⟨hD, hle, ss, hss, ess⟩ := hJ0
    dsimp only [List.cons_append, List.nil_append] at N
    dsimp only [List.map_cons, List.map_nil, loopM, kstB] at hss hD F hoff hle ess
    obtain ⟨x, t, rfl, hx⟩ := strsAre_is hi (List.mem_of_getElem? hv)
    have hxl := (hw x hx).1
    have hxu := (hw x hx).2
    have hO := hoff D (.head _) (fun e => by rw [e] at hD; obtain ⟨_, e', _⟩ := hl; rw [e'] at hD; cases hD)
    k_steps
    refine Mine.stopHere ?_
    refine' Mine.setItem_last (pre := ys) (x := .int z tz) (n := cc) (by k_asm) (by k_asm) ?U ?_
    case U => k_upd
    have hyl : ys.length ≤ 5 := by
      obtain ⟨h1, _⟩ := List.getElem?_eq_some_iff.mp hv
      rw [hi.len_eq] at h1; lia
    intro h' F' N'
    k_steps
    · rename News _ _ _ _ => NN
      rw [List.push_toArray] at NN
      apply Mine.turnEnd (⟨D, ys ++ [.int (z + (1 + x.length)) _], 0, _, cc + 1⟩)
      ((case fr | nw => k_asm); (case own' | led => walk_at "M sub"); (case hps => walk_at "M ps"); (case off => walk_at "M off"))
      refine ⟨hD, by simp only [List.length_append, List.length_singleton]; lia, ss ++ [z + (1 + x.length)], intsAre_append hss (.cons _ _ .nil), ?_⟩
      rw [take_step23 hi hv, List.foldl_append, List.foldl_cons, List.foldl_nil, ← ess, sizeStep_snoc, if_pos (by assumption)]
    · apply Mine.turnEnd (⟨D, ys, z + (1 + x.length), _, cc⟩)
      ((case fr | nw => k_asm); (case own' | led => walk_at "M sub"); (case hps => walk_at "M ps"); (case off => walk_at "M off"))
      refine ⟨hD, Nat.le_succ_of_le hle, ss, hss, ?_⟩
      rw [take_step23 hi hv, List.foldl_append, List.foldl_cons, List.foldl_nil, ← ess, sizeStep_snoc, if_neg (by simp_all)]
  case done =>
    refine Mine.all_5 ?_; intro D ys z tz cc u h tk hJ0 F N
    obtain ⟨hD, hle, ss, hss, ess⟩ := hJ0
    dsimp only [List.cons_append, List.nil_append] at N
    dsimp only [loopM, kstB] at hss F hD hle ess
    have hint : IntsAre (ys ++ [.int z tz]) (ss ++ [z]) := intsAre_append hss (.cons _ _ .nil)
    k_steps
    rw [List.take_of_length_le (Nat.le_of_eq hi.len_eq.symm)] at ess
    exact hret _ _ _ _ (max_of (by unfold sizesOf; rw [← ess]; assumption) (by unfold sizesOf; rw [← ess]; assumption)) (Fr.keep (by k_asm))
end
section
noncomputable def foldStep (fs : List Str) (x : Str) : List Str := fs.flatMap fun f => [f ++ Str.ofString "\n " ++ x, f ++ Str.ofString " " ++ x]
noncomputable def foldsOf (ws : List Str) : List Str := (ws.drop 1).foldl foldStep (ws.take 1)

theorem news_rot3 {h₀ h : Heap} {L : Addr} {a b c : Addr × Obj} {r : List (Addr × Obj)} (N : News h₀ L h (a :: b :: c :: r)) : News h₀ L h (b :: c :: a :: r) := fun p hp => N p (by
  rcases List.mem_cons.mp hp with rfl | hp
  · exact .tail _ (.head _)
  · rcases List.mem_cons.mp hp with rfl | hp
    · exact .tail _ (.tail _ (.head _))
    · rcases List.mem_cons.mp hp with rfl | hp
      · exact .head _
      · exact .tail _ (.tail _ (.tail _ hp)))
theorem strsAre_take {vs : List Value} {xs : List Str} (h : StrsAre vs xs) : ∀ n, StrsAre (vs.take n) (xs.take n) := by
  induction h with
  | nil => intro n; cases n <;> exact .nil
  | cons x t r ih =>
    intro n
    cases n with
    | zero => exact .nil
    | succ n => exact .cons x t (ih n)
theorem strsAre_drop {vs : List Value} {xs : List Str} (h : StrsAre vs xs) : ∀ n, StrsAre (vs.drop n) (xs.drop n) := by
  induction h with
  | nil => intro n; cases n <;> exact .nil
  | cons x t r ih =>
    intro n
    cases n with
    | zero => exact .cons x t r
    | succ n => exact ih n
theorem strLen_append (x y : Str) : (x ++ y).length = x.length + y.length := by
  show (x.cps ++ y.cps).size = _
  exact Array.size_append
theorem fold_bounds : ∀ (l fs : List Str) (a b : Nat), (∀ x ∈ l, x.length ≤ 3) → fs.length ≤ a → (∀ f ∈ fs, f.length ≤ b) → (l.foldl foldStep fs).length ≤ a * 2 ^ l.length ∧ ∀ f ∈ l.foldl foldStep fs, f.length ≤ b + 5 * l.length
  | [], fs, a, b, _, h1, h2 => by simpa using ⟨h1, h2⟩
  | x :: l, fs, a, b, hl, h1, h2 => by
    have hx := hl x (.head _)
    have hlen : (foldStep fs x).length ≤ a * 2 := by
      have e : (foldStep fs x).length = fs.length * 2 := by
        unfold foldStep; rw [List.length_flatMap]; simp [List.map_const', Nat.mul_comm]
      rw [e]; exact Nat.mul_le_mul_right 2 h1
    have hb : ∀ f ∈ foldStep fs x, f.length ≤ b + 5 := by
      intro f hf
      unfold foldStep at hf
      obtain ⟨g, hg, hf⟩ := List.mem_flatMap.mp hf
      have h3 := h2 g hg
      have e1 : (Str.ofString "\n ").length = 2 := by decide
      have e2 : (Str.ofString " ").length = 1 := by decide
      rcases List.mem_cons.mp hf with rfl | hf
      · rw [strLen_append, strLen_append, e1]; lia
      · rw [List.mem_singleton.mp hf, strLen_append, strLen_append, e2]; lia
    obtain ⟨r1, r2⟩ := fold_bounds l (foldStep fs x) (a * 2) (b + 5) (fun y hy => hl y (.tail _ hy)) hlen hb
    refine ⟨?_, fun f hf => ?_⟩
    · rw [List.length_cons, Nat.pow_succ]; simp only [List.foldl_cons]; refine Nat.le_trans r1 ?_; rw [Nat.mul_assoc, Nat.mul_comm 2]; exact Nat.le_refl _
    · have := r2 f hf; rw [List.length_cons]; lia
theorem take_step24 {vs : List Value} {ws : List Str} (h : StrsAre vs ws) : ∀ {i : Nat} {x : Str} {t : Tok}, vs[i]? = some (.str x t) → ws.take (i + 1) = ws.take i ++ [x] := by
  induction h with
  | nil => intro i x t e; simp at e
  | cons y u r ih =>
    intro i x t e
    cases i with
    | zero => simp at e; simp [e.1]
    | succ i => simp at e; simp [ih e]
theorem fold_strs {x : Str} : ∀ {vs : List Value} {fs : List Str} {yss : List (List Value)}, StrsAre vs fs →
    Paired (fun v ys => ∃ us, (∃ t1 t2, us = [Value.str (Str.ofString "\n ") t1, .str (Str.ofString " ") t2]) ∧ Paired (fun u r => ∃ t, r = Value.str (strOf v ++ strOf u ++ x) t) (us.filter fun _ => true) ys) vs yss → StrsAre yss.flatten (foldStep fs x) := by
  intro vs fs yss hv
  induction hv generalizing yss with
  | nil => intro h; cases h; exact .nil
  | cons f t r ih' =>
    intro h
    cases h with
    | cons h1 h2 =>
      obtain ⟨us, ⟨t1, t2, rfl⟩, hp⟩ := h1
      have ih := ih' h2
      cases hp with
      | cons a1 a2 =>
        cases a2 with
        | cons b1 b2 =>
          cases b2
          obtain ⟨u1, rfl⟩ := a1
          obtain ⟨u2, rfl⟩ := b1
          exact .cons _ _ (.cons _ _ ih)
theorem foldings {w : World} {p : Program} {loose : List Str} {mean : ExcName → Option Value} {mg mb : Str → Option Value} (an : Addr) (vs : List Value) (ws : List Str)
    (dp un : Nat) (gd : Option (List Code)) (cn : Str) (cs : Scope) (a : Addr) (ccd : Value) (cl : List (Str × Addr)) (outer : List Env) (A₀ : Around) (base h₀ : Heap) (L : Addr) (m : Str → Option Value) (s : Shared) (Q E : Value → Shared → Prop)
    (hl : s.heap.IsList an vs.toArray) (hi : StrsAre vs ws) (hn : ws.length = 5) (hw : ∀ x ∈ ws, 1 ≤ x.length ∧ x.length ≤ 3)
    (B : Below A₀ base outer h₀) (F : Fr h₀ L s.heap m) (X : (Mine.hd.heap_1 w.params).In h₀) (T : Top p loose mean mg mb h₀) (hk : cs.kind = .function) (hd : dp + 20 < recursionLimit) (hu : un + 400 < cLine)
    (hret : ∀ D ys c h' tk', StrsAre ys (foldsOf ws) → (∀ b o, s.heap.get? b = some o → h'.get? b = some o) → s.heap.get? D = none → h'.get? D = some (PySem.W.listOf (List.toArray ys) c) → Q (.ref D) { s with heap := h', toks := tk' }) :
    wpAny (model PySem.Challenge.rw_ik0127_01.row.prog w) (ktrTop dp un gd cn cs L a ccd cl outer) (call (.ref 277) [.ref an]) Q E s := by
  revert X T; k_fill; intro X T
  refine wpAny_call ?_
  k_dflt (refine' Mine.enterC ?k1 ?k2 ?k3 ?k5 ?kA ?kF ?kK ?k6 ?k7 ?k8 ?k9 ?kB ?kD ?_ ?c2 ?c3 ?c4; (case kA | kF => exact rfl); (case kK => assumption); (case k1 | k2 | k3 | k5 => k_asm); (case k6 | k7 => k_is); (case k8 => ktr_room); (case k9 => exact BindsTo.of_eq rfl); (case kB => exact rfl); (case kD => decide +kernel); (case c2 | c3 | c4 => exact rfl); k_whole; intro _ _ _ _ _ Nc Yc _ _ _; k_cells Yc; (try dsimp only [List.cons_append, List.nil_append] at Nc); (try dsimp only); (try k_fold))
  rename_i Lc hc tkc Fc Bc Xc Tc oc dc
  k_steps
  apply Mine.forT (h₀ := s.heap) (fun c : Addr × List Value × Nat × Obj => [(c.1, PySem.W.listOf (List.toArray c.2.1) c.2.2.1), (Lc + 1, c.2.2.2)]) (fun c => [(Str.ofString "foldings", .ref c.1)]) [Str.ofString "foldings"]
    (fun i c => s.heap.get? c.1 = none ∧ StrsAre c.2.1 (((ws.drop 1).take i).foldl foldStep (ws.take 1)) ∧ ∃ v, c.2.2.2.data = .cell v)
  ((case hh => with_unfolding_all rfl); (case hs => intro _; with_unfolding_all rfl); (case hE => passes_own); (case ht => intro _ _; with_unfolding_all rfl))
  k_steps
  rename_i FF NN
  rw [pick_tail _ _ (by decide), pick_head _ _ (by decide)] at NN
  refine ⟨_, vs.drop 1, ⟨_, vs.take 1, 0, _⟩, _, _, rfl, ⟨_, (NN _ (.head _)).1, rfl, _, rfl⟩, (NN _ (.head _)).2.1, FF, news_rot3 NN, ?hit, ?hitr, (by walk_at "M ps"), ⟨(NN _ (.tail _ (.head _))).2.2, strsAre_take hi 1, _, dc⟩, ?turn, ?done⟩
  case hit => rintro i ⟨D, ys, cc, wo⟩ ⟨_, _, v, hv⟩; exact .listOf (.cell hv .nil)
  case hitr => exact .listOf .nil
  case turn =>
    intro i; refine Mine.all_4 ?_; intro D ys cc wo v u h tk own hv hJ0 hoff F N
    obtain ⟨hD, hys, v0, hv0⟩ := hJ0
    dsimp only [List.cons_append, List.nil_append] at N
    dsimp only [List.map_cons, List.map_nil, loopM, kstB] at hys hD F hoff hv0
    have hDc : D ≠ Lc + 1 := ne_cell N (.head _) (.tail _ (.head _)) hv0
    have hAc : _ ≠ Lc + 1 := ne_cell N (.tail _ (.tail _ (.head _))) (.tail _ (.head _)) hv0
    have hO := hoff (Lc + 1) (.tail _ (.head _)) (Ne.symm hAc)
    obtain ⟨x, t, rfl, hx⟩ := strsAre_is (strsAre_drop hi 1) (List.mem_of_getElem? hv)
    k_steps
    apply Mine.compA2 2 (fun v us => ∃ t1 t2, us = [.str (Str.ofString "\n ") t1, .str (Str.ofString " ") t2]) (fun _ _ => true) (fun v u r => ∃ t, r = .str (strOf v ++ strOf u ++ x) t)
    ((case F₀ => k_asm); (case hsw | hL | hA | hh | hclos => with_unfolding_all rfl); (case hcell => decide); (case hkind => with_unfolding_all rfl); (case hnames => decide); (case hx | hy => with_unfolding_all rfl); (case hxy => decide); (case hz | hp => with_unfolding_all rfl); (case hs => intro _; with_unfolding_all rfl); (case hs₂ => intro _ _; with_unfolding_all rfl))
    k_steps
    have hi4 : i < 4 := by
      obtain ⟨h1, _⟩ := List.getElem?_eq_some_iff.mp hv
      rw [List.length_drop, hi.len_eq, hn] at h1; lia
    have hx3 : x.length ≤ 3 := (hw x (List.mem_of_mem_drop hx)).2
    have hbd := fold_bounds ((ws.drop 1).take i) (ws.take 1) 1 3 (fun y hy => (hw y (List.mem_of_mem_drop (List.mem_of_mem_take hy))).2) (by rw [List.length_take]; exact Nat.min_le_left _ _) (fun f hf => (hw f (List.mem_of_mem_take hf)).2)
    have htl : ((ws.drop 1).take i).length ≤ 4 := by rw [List.length_take]; exact Nat.le_trans (Nat.min_le_left _ _) (Nat.le_of_lt hi4)
    refine ⟨_, _, ys, rfl, by is_list, ?sz, by k_asm, by k_asm, ?iter, ?tests, ?elt, ?rest⟩
    case sz =>
      have h1 := hbd.1
      have h2 : 2 ^ ((ws.drop 1).take i).length ≤ 2 ^ 4 := Nat.pow_le_pow_right (by decide) htl
      rw [hys.len_eq]
      rw [sizeLine_eq, Nat.one_mul] at *
      exact Nat.le_trans (Nat.mul_le_mul_right 2 (Nat.le_trans h1 h2)) (by decide)
    case iter =>
      intro C D2 v s₂ m₂ E' hC1 hD1 hC2 hD2 hv hn hm F₂ N₂ hk₂
      have mk : Mine.MarkNew := trivial
      k_steps
      refine wpAny_newObj_type ?_
      exact ⟨_, [_, _], rfl, ⟨_, Heap.get?_push_size _ rfl, rfl, _, rfl⟩, Nat.le_refl 2, ⟨_, _, rfl⟩, .inr (Nat.le_refl _), _, _, rfl, fun _ _ e => Heap.get?_push_of_some _ e⟩
    case tests =>
      intro C v us y s₂ m₂ E' hC hv hU hu hn hm1 hm2 F₂ N₂ hk₂
      k_steps
      exact ⟨_, _, rfl, fun _ _ e => e⟩
    case elt =>
      intro C v us y s₂ m₂ E' hC hv hU hu _ hn hm1 hm2 F₂ N₂ hk₂
      obtain ⟨f, tf, rfl, hf⟩ := strsAre_is hys hv
      have hfl : f.length ≤ 23 := Nat.le_trans (hbd.2 f hf) (Nat.add_le_add_left (Nat.mul_le_mul_left 5 htl) 3)
      obtain ⟨t1, t2, rfl⟩ := hU
      have hy : ∃ y' ty, y = .str y' ty ∧ y'.length ≤ 2 := by
        rcases List.mem_cons.mp hu with rfl | hu
        · exact ⟨_, _, rfl, by decide⟩
        · rw [List.mem_singleton.mp hu]; exact ⟨_, _, rfl, by decide⟩
      obtain ⟨y', ty, rfl, hyl⟩ := hy
      k_steps
      exact ⟨_, _, rfl, fun _ _ e => e⟩
    case rest =>
      intro D2 c2 yss h' tk F N hne hDn hP
      k_steps
      apply Mine.turnEnd (⟨D2, yss.flatten, c2, _⟩)
      ((case fr | nw => k_asm); (case own' | led => walk_at "M sub"); (case hps => walk_at "M ps"); (case off => walk_at "M off"))
      refine ⟨?_, ?_, _, by assumption⟩
      · exact (‹News _ _ _ _› _ (.head _)).2.2
      · rw [take_step24 (strsAre_drop hi 1) hv, List.foldl_append]
        exact fold_strs hys hP
  case done =>
    refine Mine.all_4 ?_; intro D ys cc wo u h tk hJ0 F N
    obtain ⟨hD, hys, v0, hv0⟩ := hJ0
    dsimp only [List.cons_append, List.nil_append] at N
    dsimp only [loopM, kstB] at hys F hD hv0
    k_steps
    rw [show (ws.drop 1).take (vs.drop 1).length = ws.drop 1 from List.take_of_length_le (by rw [List.length_drop, List.length_drop, hi.len_eq]; exact Nat.le_refl _)] at hys
    refine hret _ _ _ _ _ hys (Fr.keep (by k_asm)) hD (N _ (.head _)).1
end
section
/-- the body of a group as translate writes it: [^c] for a barred sign, backslash c else -/
noncomputable def encS : List (Nat × Bool) → List Nat
  | [] => []
  | (c, true) :: r => 91 :: 94 :: c :: 93 :: encS r
  | (c, false) :: r => 92 :: c :: encS r
noncomputable abbrev tupOf (its : Array Value) : Obj := { cls := .type "tuple", data := .seq its }
/-- the tuples of _law_signs, as objects of a ledger -/
noncomputable def SignIn (tups : List (Addr × Obj)) (v : Value) (g : Nat × Bool) : Prop := ∃ ta t, v = .ref ta ∧ (ta, tupOf #[.str (mkS [g.1]) t, .bool g.2]) ∈ tups
noncomputable def SignsAre (h : Heap) (vs : List Value) (gs : List (Nat × Bool)) : Prop := Paired (fun v g => ∃ ta t, v = .ref ta ∧ h.get? ta = some (tupOf #[.str (mkS [g.1]) t, .bool g.2])) vs gs

theorem encS_len : ∀ gs : List (Nat × Bool), (encS gs).length ≤ 4 * gs.length
  | [] => Nat.le_refl _
  | (c, true) :: r => by have := encS_len r; simp only [encS, List.length_cons] at this ⊢; lia
  | (c, false) :: r => by have := encS_len r; simp only [encS, List.length_cons] at this ⊢; lia
theorem ne_emptyS {l : List Nat} (h : l ≠ []) : (mkS l != Str.ofString "") = true := by
  have e : Str.ofString "" = mkS [] := by decide
  rw [e, bne_iff_ne]
  exact fun e => h (mkS_inj e)
theorem paired_imp {α β : Type} {F G : α → β → Prop} (h : ∀ a b, F a b → G a b) : ∀ {xs : List α} {ys : List β}, Paired F xs ys → Paired G xs ys := by
  intro xs ys hp
  induction hp with
  | nil => exact .nil
  | cons a r ih => exact .cons (h _ _ a) ih
theorem signs_more {t : Addr × Obj} {tups : List (Addr × Obj)} {vs : List Value} {gs : List (Nat × Bool)} (h : Paired (SignIn tups) vs gs) : Paired (SignIn (t :: tups)) vs gs :=
  paired_imp (fun _ _ ⟨ta, t, e, m⟩ => ⟨ta, t, e, .tail _ m⟩) h
theorem signsC {w : World} {p : Program} {loose : List Str} {mean : ExcName → Option Value} {mg mb : Str → Option Value} (tx : Str) (t1 : Tok) (gs : List (Nat × Bool))
    (dp un : Nat) (gd : Option (List Code)) (cn : Str) (cs : Scope) (a : Addr) (ccd : Value) (cl : List (Str × Addr)) (outer : List Env) (A₀ : Around) (base h₀ : Heap) (L : Addr) (m : Str → Option Value) (s : Shared) (Q E : Value → Shared → Prop)
    (hx : tx.length ≤ 1000) (hgs : Txt.slice tx (some 10) (some (-6)) = mkS (encS gs)) (hgl : gs.length ≤ 100)
    (B : Below A₀ base outer h₀) (F : Fr h₀ L s.heap m) (X : (Mine.hd.heap_1 w.params).In h₀) (T : Top p loose mean mg mb h₀) (hk : cs.kind = .function) (hd : dp + 20 < recursionLimit) (hu : un + 400 < cLine)
    (hret : ∀ D ys c h' tk' tups, Paired (SignIn tups) ys gs → (∀ p ∈ tups, h'.get? p.1 = some p.2 ∧ s.heap.get? p.1 = none ∧ ∃ its, p.2 = tupOf its) → (∀ b o, s.heap.get? b = some o → h'.get? b = some o) → s.heap.get? D = none → h'.get? D = some (PySem.W.listOf (List.toArray ys) c) → Q (.ref D) { s with heap := h', toks := tk' }) :
    wpAny (model PySem.Challenge.rw_ik0127_01.row.prog w) (ktrTop dp un gd cn cs L a ccd cl outer) (call (.ref 284) [.str tx t1]) Q E s := by
  revert X T; k_fill; intro X T
  refine wpAny_call ?_
  k_dflt (refine' Mine.enterP ?k1 ?k2 ?k3 ?k5 ?kA ?kF ?kK ?k6 ?k7 ?k8 ?k9 ?kB ?_ ?c2 ?c3 ?c4 ?c5; (case kA | kF => exact rfl); (case kK => assumption); (case k1 | k2 | k3 | k5 => k_asm); (case k6 | k7 => k_is); (case k8 => ktr_room); (case k9 => exact BindsTo.of_eq rfl); (case c5 => decide); (case kB => exact locs rfl); (case c2 | c3 | c4 => exact rfl); k_whole; intro _ _ _ _ _ _ _; (try dsimp only); (try k_fold))
  k_steps
  subst mB mA
  rw [hgs] at *
  apply Mine.whileInv (h₀ := s.heap) (rest := []) (fun c : Addr × List Value × Nat × List (Addr × Obj) × List (Nat × Bool) × Tok => (c.1, PySem.W.listOf (List.toArray c.2.1) c.2.2.1) :: c.2.2.2.1) (fun c => [(Str.ofString "signs", .ref c.1), (Str.ofString "group", .str (mkS (encS c.2.2.2.2.1)) c.2.2.2.2.2)]) [Str.ofString "signs", Str.ofString "group"]
    (fun c => s.heap.get? c.1 = none ∧ (∀ p ∈ c.2.2.2.1, ∃ its, p.2 = tupOf its) ∧ ∃ done, gs = done ++ c.2.2.2.2.1 ∧ Paired (SignIn c.2.2.2.1) c.2.1 done) (fun c => c.2.2.2.2.1.length) ⟨_, [], 0, [], gs, _⟩
  ((case hE => passes_own); (case F => k_asm); (case hps => walk_at "M ps"))
  case N => k_asm
  case hI => exact ⟨(‹News _ _ _ _› _ (.head _)).2.2, (fun _ h => by cases h), [], rfl, .nil⟩
  case turn =>
    refine Mine.all_6 ?_; intro D ys cc tups rem tg u h tk hJ0 F N
    obtain ⟨hD, htup, done, hdone, hsg⟩ := hJ0
    simp only [List.cons_append, List.append_nil] at N
    dsimp only [loopM, kstB] at hD F hdone hsg htup
    have hlen : (mkS (encS rem)).length ≤ 400 := by
      rw [mkS_len]
      have h1 := encS_len rem
      have h2 : rem.length ≤ gs.length := by rw [hdone, List.length_append]; lia
      lia
    k_steps
    cases rem with
    | nil =>
      refine WhlIf.no (by decide) ?_
      k_steps
      rw [List.append_nil] at hdone
      subst hdone
      exact hret _ _ _ _ _ _ hsg (fun p hp => ⟨(N _ (.tail _ hp)).1, (N _ (.tail _ hp)).2.2, htup p hp⟩) (Fr.keep (by k_asm)) hD (N _ (.head _)).1
    | cons g r =>
      obtain ⟨c, b⟩ := g
      refine WhlIf.yes (ne_emptyS (by cases b <;> exact List.cons_ne_nil _ _)) ?_
      have hO : OwnOff tups [D] := fun p hp b' hb e => by
        rw [List.mem_singleton.mp hb] at e
        have e1 := (N _ (.head _)).1
        have e2 := (N _ (.tail _ hp)).1
        simp only at e1
        rw [e, e1] at e2
        obtain ⟨its, e3⟩ := htup p hp
        rw [← Option.some.inj e2] at e3
        exact absurd (Value.type.inj (congrArg Obj.cls e3)) (by decide)
      have hyl : ys.length ≤ 100 := by
        have h1 := hsg.length
        have h2 : done.length ≤ gs.length := by rw [hdone, List.length_append]; lia
        lia
      cases b with
      | true =>
        have h4 : 4 ≤ (mkS (encS ((c, true) :: r))).length := by rw [mkS_len]; simp only [encS, List.length_cons]; lia
        have e1 : Txt.slice (mkS (encS ((c, true) :: r))) none (some 2) = Str.ofString "[^" := (slice_b (b := 2) (by simp only [encS, List.length_cons]; lia)).trans (show mkS [91, 94] = Str.ofString "[^" by decide)
        have e2 : Txt.item (mkS (encS ((c, true) :: r))) 2 = mkS [c] := item_nat (i := 2) (by simp only [encS, List.length_cons]; lia)
        have e4 : Txt.slice (mkS (encS ((c, true) :: r))) (some 4) none = mkS (encS r) := slice_a (a := 4) (by simp only [encS, List.length_cons]; lia)
        k_steps
        · rename Fr _ _ _ _ => FF
          rename News _ _ _ _ => NN
          dsimp +zetaDelta only at FF
          rw [e4] at FF
          rw [e2, List.push_toArray] at NN
          apply Mine.turnEnd (⟨D, ys ++ [.ref ?ta1], cc + 1, (?ta1, tupOf #[.str (mkS [c]) ?tt1, .bool true]) :: tups, r, ?tg1⟩)
          ((case fr | nw => k_asm); (case own' | led => walk_at "M sub"); (case hps => walk_at "M ps"); (case off => walk_at "M off"))
          refine ⟨⟨hD, fun p hp => ?_, done ++ [(c, true)], by rw [hdone, List.append_assoc]; rfl, Paired.snoc (signs_more hsg) ⟨_, _, rfl, .head _⟩⟩, Nat.lt_succ_self _⟩
          rcases List.mem_cons.mp hp with rfl | hp
          · exact ⟨_, rfl⟩
          · exact htup p hp
        · exfalso
          rename (_ == _) = false => hb
          rw [e1] at hb
          exact absurd hb (by decide)
      | false =>
        have h4 : 2 ≤ (mkS (encS ((c, false) :: r))).length := by rw [mkS_len]; simp only [encS, List.length_cons]; lia
        have e1 : Txt.slice (mkS (encS ((c, false) :: r))) none (some 2) = mkS [92, c] := slice_b (b := 2) (by simp only [encS, List.length_cons]; lia)
        have e2 : Txt.slice (mkS (encS ((c, false) :: r))) (some 1) (some 2) = mkS [c] := slice_ab (a := 1) (b := 2) (by decide) (by simp only [encS, List.length_cons]; lia)
        have e4 : Txt.slice (mkS (encS ((c, false) :: r))) (some 2) none = mkS (encS r) := slice_a (a := 2) (by simp only [encS, List.length_cons]; lia)
        k_steps
        · exfalso
          rename (_ == _) = true => hb
          rw [e1] at hb
          have e9 : Str.ofString "[^" = mkS [91, 94] := by decide
          rw [e9, beq_iff_eq] at hb
          have := mkS_inj hb
          simp at this
        · rename Fr _ _ _ _ => FF
          rename News _ _ _ _ => NN
          dsimp +zetaDelta only at FF
          rw [e4] at FF
          rw [e2, List.push_toArray] at NN
          apply Mine.turnEnd (⟨D, ys ++ [.ref ?ta2], cc + 1, (?ta2, tupOf #[.str (mkS [c]) ?tt2, .bool false]) :: tups, r, ?tg2⟩)
          ((case fr | nw => k_asm); (case own' | led => walk_at "M sub"); (case hps => walk_at "M ps"); (case off => walk_at "M off"))
          refine ⟨⟨hD, fun p hp => ?_, done ++ [(c, false)], by rw [hdone, List.append_assoc]; rfl, Paired.snoc (signs_more hsg) ⟨_, _, rfl, .head _⟩⟩, Nat.lt_succ_self _⟩
          rcases List.mem_cons.mp hp with rfl | hp
          · exact ⟨_, rfl⟩
          · exact htup p hp
end
section
local macro_rules | `(tactic| walk_at "call builtin:len") => `(tactic| (k_here; (with_reducible show wpAny _ _ (call (Value.builtin "len") [Value.ref _]) _ _ _); (with_reducible refine Mine.stopHere ?_)))
/-- may a sign stand 'back' signs ahead of a place -/
noncomputable def okAt (gs : List (Nat × Bool)) (fo : List Nat) (back p : Int) : Bool := (Txt.item (mkS fo) (p - back) == mkS [(gs.getD ((gs.length : Int) - back).toNat (0, false)).1]) != (gs.getD ((gs.length : Int) - back).toNat (0, false)).2
noncomputable def placesTo (gs : List (Nat × Bool)) (fo : List Nat) : Nat → List Int
  | 0 => rangeKs gs.length (((mkS fo).length : Int) + 1 - gs.length).toNat
  | i + 1 => (placesTo gs fo i).filter (okAt gs fo (1 + (i : Int) * 1))
noncomputable def intOf : Value → Int
  | .int i _ => i
  | _ => 0
theorem intsAre_is {vs : List Value} {xs : List Int} (h : IntsAre vs xs) {v : Value} (hv : v ∈ vs) : ∃ x t, v = .int x t ∧ x ∈ xs := by
  induction h with
  | nil => cases hv
  | cons x t r ih =>
    rcases List.mem_cons.mp hv with e | hv
    · exact ⟨x, t, e, .head _⟩
    · obtain ⟨y, u, e, hy⟩ := ih hv
      exact ⟨y, u, e, .tail _ hy⟩
theorem intsAre_filter (p : Value → Bool) (q : Int → Bool) (h : ∀ x t, p (.int x t) = q x) : ∀ {vs : List Value} {xs : List Int}, IntsAre vs xs → IntsAre (vs.filter p) (xs.filter q) := by
  intro vs xs hv
  induction hv with
  | nil => exact .nil
  | cons x t r ih =>
    rw [List.filter_cons, List.filter_cons, h]
    split
    · exact .cons x t ih
    · exact ih
theorem places_len (gs : List (Nat × Bool)) (fo : List Nat) : ∀ i, (placesTo gs fo i).length ≤ (mkS fo).length + 1
  | 0 => by unfold placesTo; rw [rangeKs_length]; exact Int.toNat_le.mpr (Int.sub_le_self _ (Int.natCast_nonneg _))
  | i + 1 => Nat.le_trans (List.length_filter_le _ _) (places_len gs fo i)
theorem places_mem (gs : List (Nat × Bool)) (fo : List Nat) : ∀ i {q : Int}, q ∈ placesTo gs fo i → (gs.length : Int) ≤ q ∧ q ≤ ((mkS fo).length : Int)
  | 0, q, h => by
    have h := mem_rangeKs h
    refine ⟨h.1, ?_⟩
    obtain ⟨d, e⟩ := Int.eq_ofNat_of_zero_le (Int.sub_nonneg_of_le h.1)
    obtain rfl : q = (gs.length : Int) + d := by rw [← e, Int.add_comm, Int.sub_add_cancel]
    have h2 := Int.lt_toNat.mp (Int.ofNat_lt.mp (Int.lt_of_add_lt_add_left h.2))
    exact Int.le_of_lt_add_one (Int.add_lt_of_lt_sub_left h2)
  | i + 1, q, h => places_mem gs fo i (List.mem_filter.mp h).1
section
variable {prog : Program} {w : World} {A : Around} {E : Value → Shared → Prop} {s : Shared}
theorem item_any {value slice : Expr} {l : Addr} {items : Array Value} {k : Int} {u : Tok} {x : Value} {Q : Value → Shared → Prop} (hl : s.heap.IsList l items) (h0 : k < 0) (h1 : -(items.size : Int) ≤ k) (hfit : -(2 ^ 63) ≤ k) (hx : items[(k + items.size).toNat]? = some x) (h : Q x s)
    (hs : subscripted slice false (.ref l) (.int k u) = operate [.ref l, .int k u] (getItem (.ref l) (.int k u)) := by with_unfolding_all rfl) : wpAny (model prog w) A (subscriptTail value slice (.ref l) (.int k u)) Q E s :=
  tail_any hl.typeIs slot_list_getitem.lookup (wpAny_getItem_list_neg hl h0 h1 hfit hx h) hs
end
theorem unpack2 {prog : Program} {w : World} {A : Around} {E : Value → Shared → Prop} {s : Shared} {h₀ : Heap} {L : Addr} {m : Str → Option Value} {news : List (Addr × Obj)} {env : Env} {x y : Str} {px py pos : Pos} {k} {t : Addr} {v1 v2 : Value} {Q : Unit → Shared → Prop}
    (F : Fr h₀ L s.heap m) (N : News h₀ L s.heap news) (hh : A.handled = none) (ht : IsTup s.heap t #[v1, v2])
    (h : ∀ h', Fr h₀ L h' m → News h₀ L h' news → wpAny (model prog w) A (assign (.Name x px) env v1) (fun _ s₂ => wpAny (model prog w) A (assign (.Name y py) env v2) Q E s₂) E { s with heap := h' }) :
    wpAny (model prog w) A (assign (.Tuple [.Name x px, .Name y py] k pos) env (.ref t)) Q E s := by
  refine assign_Tuple_tuple hh ht rfl rfl fun h' he => ?_
  have keep : ∀ b o, s.heap.get? b = some o → h'.get? b = some o := fun b o e => he b o (Nat.ne_of_lt (Heap.lt_size e)) e
  with_unfolding_all exact wpAny_bind (wpAny_holding (wpAny_mono (h h' (F.keeps keep) (N.grown keep)) (fun _ s₂ h₂ => wpAny_bind (wpAny_holding (wpAny_mono h₂ (fun _ s₃ h₃ => wpAny_pure h₃) fun _ _ e => e))) fun _ _ e => e))
theorem signs_at {h : Heap} : ∀ {vs : List Value} {gs : List (Nat × Bool)}, SignsAre h vs gs → ∀ j, j < gs.length → ∃ ta t, vs[j]? = some (.ref ta) ∧ h.get? ta = some (tupOf #[.str (mkS [(gs.getD j (0, false)).1]) t, .bool (gs.getD j (0, false)).2]) := by
  intro vs gs hs
  induction hs with
  | nil => exact fun j hj => absurd hj (Nat.not_lt_zero _)
  | cons a r ih =>
    intro j hj
    cases j with
    | zero => obtain ⟨ta, t, rfl, e⟩ := a; exact ⟨ta, t, rfl, e⟩
    | succ j => exact ih j (Nat.lt_of_succ_lt_succ hj)
theorem taken {w : World} {p : Program} {loose : List Str} {mean : ExcName → Option Value} {mg mb : Str → Option Value} (an : Addr) (vs : List Value) (gs : List (Nat × Bool)) (fo : List Nat) (t2 : Tok)
    (dp un : Nat) (gd : Option (List Code)) (cn : Str) (cs : Scope) (a : Addr) (ccd : Value) (cl : List (Str × Addr)) (outer : List Env) (A₀ : Around) (base h₀ : Heap) (L : Addr) (m : Str → Option Value) (s : Shared) (Q E : Value → Shared → Prop)
    (hl : s.heap.IsList an vs.toArray) (hi : SignsAre s.heap vs gs) (hg : gs.length ≤ 100) (hf : fo.length ≤ 1000)
    (B : Below A₀ base outer h₀) (F : Fr h₀ L s.heap m) (X : (Mine.hd.heap_1 w.params).In h₀) (T : Top p loose mean mg mb h₀) (hk : cs.kind = .function) (hd : dp + 20 < recursionLimit) (hu : un + 400 < cLine)
    (hret : ∀ h' tk', (∀ b o, s.heap.get? b = some o → h'.get? b = some o) → Q (.bool !decide (placesTo gs fo gs.length = [])) { s with heap := h', toks := tk' }) :
    wpAny (model PySem.Challenge.rw_ik0127_01.row.prog w) (ktrTop dp un gd cn cs L a ccd cl outer) (call (.ref 289) [.ref an, .str (mkS fo) t2]) Q E s := by
  revert X T; k_fill; intro X T
  refine wpAny_call ?_
  k_dflt (refine' Mine.enterC ?k1 ?k2 ?k3 ?k5 ?kA ?kF ?kK ?k6 ?k7 ?k8 ?k9 ?kB ?kD ?_ ?c2 ?c3 ?c4; (case kA | kF => exact rfl); (case kK => assumption); (case k1 | k2 | k3 | k5 => k_asm); (case k6 | k7 => k_is); (case k8 => ktr_room); (case k9 => exact BindsTo.of_eq rfl); (case kB => exact rfl); (case kD => decide +kernel); (case c2 | c3 | c4 => exact rfl); k_whole; intro _ _ _ _ _ Nc Yc _ _ _; k_cells Yc; (try dsimp only [List.cons_append, List.nil_append] at Nc); (try dsimp only); (try k_fold))
  rename_i Lc hc tkc Fc Bc Xc Tc o1 o2 o3 o4 d1 d2 d3 d4
  have hsz : ((List.toArray vs).size : Int) = (gs.length : Int) := by rw [List.size_toArray, hi.length]
  have hlf : (mkS fo).length ≤ 1000 := by rw [mkS_len]; exact hf
  k_steps
  refine kun_lenL (by is_list) (by with_reducible assumption) (by lia) ?_
  k_steps
  rename_i D0 vs0 c0 _ _ hI0 l1 _ _ FF NN
  apply Mine.forRT (h₀ := s.heap) (fun c : Addr × List Value × Nat × Obj × Obj × Obj => [(c.1, PySem.W.listOf (List.toArray c.2.1) c.2.2.1), (Lc + 1 + 1 + 1 + 1, c.2.2.2.1), (Lc + 1 + 1 + 1, c.2.2.2.2.1), (Lc + 1 + 1, c.2.2.2.2.2)]) (fun c => [(Str.ofString "places", .ref c.1)]) [Str.ofString "places"]
    (fun i c => IntsAre c.2.1 (placesTo gs fo i) ∧ (∃ v, c.2.2.2.1.data = .cell v) ∧ (∃ v, c.2.2.2.2.1.data = .cell v) ∧ (∃ v, c.2.2.2.2.2.data = .cell v))
  ((case hh => with_unfolding_all rfl); (case hs => intro _; with_unfolding_all rfl); (case hE => passes_own); (case ht => intro _ _; with_unfolding_all rfl))
  k_steps
  refine kun_lenL (by is_list) (by with_reducible assumption) (by lia) ?_
  k_steps
  refine ⟨_, _, _, _, gs.length, _, _, _, ⟨_, _, _, _, _, _⟩, _, _, rfl, by k_asm, ?rsm, ?rsz, by k_asm, by k_asm, ?hit, ?hitr, (by walk_at "M ps"), ⟨hI0, ⟨_, d1⟩, ⟨_, d2⟩, ⟨_, d3⟩⟩, ?turn, ?done⟩
  case rsm => exact small_one (by decide) (by decide) (by lia) (by lia)
  case rsz => rw [rangeSize_nat]; congr 1; lia
  case hit => rintro i ⟨D, ys, cc, wa, wb, wc⟩ ⟨_, ⟨v1, h1⟩, ⟨v2, h2⟩, ⟨v3, h3⟩⟩; exact .listOf (.cell h1 (.cell h2 (.cell h3 .nil)))
  case hitr => exact .cell d4 .nil
  case turn =>
    intro i; refine Mine.all_6 ?_; intro D ys cc wa wb wc t u h tk own hin hJ0 hoff F N
    obtain ⟨hys, ⟨v1, h1⟩, ⟨v2, h2⟩, ⟨v3, h3⟩⟩ := hJ0
    dsimp only [List.cons_append, List.nil_append] at N
    dsimp only [List.map_cons, List.map_nil, loopM, kstB] at hys F hoff h1 h2 h3
    have q1 : D ≠ Lc + 1 + 1 + 1 + 1 := ne_cell N (.head _) (.tail _ (.head _)) h1
    have q2 : D ≠ Lc + 1 + 1 + 1 := ne_cell N (.head _) (.tail _ (.tail _ (.head _))) h2
    have q3 : D ≠ Lc + 1 + 1 := ne_cell N (.head _) (.tail _ (.tail _ (.tail _ (.head _)))) h3
    have q4 : D ≠ Lc + 1 := ne_cell N (.head _) (.tail _ (.tail _ (.tail _ (.tail _ (.head _))))) d4
    have hbk : -(1 + (i : Int) * 1) < 0 := Int.neg_neg_of_pos (Int.add_pos_of_pos_of_nonneg (by decide) (by rw [Int.mul_one]; exact Int.natCast_nonneg i))
    have hin' : i < gs.length := hin
    obtain ⟨ta, tt, e1, e2⟩ := signs_at hi (gs.length - (1 + i)) (Mine.az2 (by assumption))
    have e2' := (Fr.keep F) _ _ e2
    k_steps
    refine item_any (items := vs.toArray) (x := .ref ta) (by is_list) hbk (by rw [hsz]; lia) (by lia) (by rw [hsz, show (-(1 + (i : Int) * 1) + (gs.length : Int)).toNat = gs.length - (1 + i) from Mine.az1 (by assumption)]; simpa using e1) ?_
    refine unpack2 (v1 := .str (mkS [(gs.getD (gs.length - (1 + i)) (0, false)).1]) tt) (v2 := .bool (gs.getD (gs.length - (1 + i)) (0, false)).2) (by k_asm) (by k_asm) (by with_unfolding_all rfl) ⟨_, Fr.keep (by k_asm) _ _ e2, rfl, _, rfl⟩ ?_
    intro h' F' N'
    k_steps
    have hgi : gs.getD ((gs.length : Int) - (1 + (i : Int) * 1)).toNat (0, false) = gs.getD (gs.length - (1 + i)) (0, false) := by congr 1; rw [Int.mul_one]; exact Int.toNat_sub _ (1 + i)
    apply Mine.compA (fun v => okAt gs fo (1 + (i : Int) * 1) (intOf v)) (fun v y => y = v)
    ((case F₀ => k_asm); (case hsw | hL | hh | hclos => with_unfolding_all rfl); (case hcell => decide); (case hkind => with_unfolding_all rfl); (case hnames => decide); (case hx | hy | hp => with_unfolding_all rfl); (case hs => intro _; with_unfolding_all rfl))
    k_steps
    refine ⟨_, _, ys, rfl, by is_list, ?sz, by k_asm, by k_asm, ?tests, ?elt, ?rest⟩
    case sz =>
      rw [hys.length]
      exact Nat.le_trans (places_len gs fo i) (by rw [mkS_len, sizeLine_eq]; lia)
    case tests =>
      intro C v s₂ m₂ E' hC hv hn hm F₂ N₂ hk₂
      obtain ⟨q, tq, rfl, hq⟩ := intsAre_is hys hv
      have hqb := places_mem gs fo i hq
      rw [mkS_len] at hqb
      have hfl := mkS_len fo
      have hq1 : 0 ≤ q - (1 + (i : Int) * 1) := by lia
      have hq2 : q - (1 + (i : Int) * 1) < (fo.length : Int) := by lia
      k_steps
      · unfold okAt
        rw [hgi]
        rfl
      · exact ⟨_, _, rfl, fun _ _ e => e⟩
    case elt =>
      intro C v s₂ m₂ E' hC hv hp hn hm F₂ N₂ hk₂
      k_steps
      exact ⟨_, _, rfl, fun _ _ e => e⟩
    case rest =>
      intro D2 c2 ys2 h2' tk2 F2 N2 hne2 hDn2 hP2
      have ey := paired_eq hP2
      subst ey
      clear hP2
      k_steps
      apply Mine.turnEnd (⟨D2, _, c2, _, _, _⟩)
      ((case fr | nw => k_asm); (case own' | led => walk_at "M sub"); (case hps => walk_at "M ps"); (case off => walk_at "M off"))
      refine ⟨intsAre_filter _ _ (fun _ _ => rfl) hys, ⟨_, by assumption⟩, ⟨_, by assumption⟩, ⟨_, by assumption⟩⟩
  case done =>
    refine Mine.all_6 ?_; intro D ys cc wa wb wc u h tk hJ0 F N
    obtain ⟨hys, ⟨v1, h1⟩, ⟨v2, h2⟩, ⟨v3, h3⟩⟩ := hJ0
    dsimp only [List.cons_append, List.nil_append] at N
    dsimp only [loopM, kstB] at hys F h1 h2 h3
    k_steps
    exact hret _ _ (Fr.keep (by k_asm))
end
section
theorem item_last {l : List Nat} (h : l ≠ []) (sg : Nat) : (Txt.item (mkS l) (-1) == mkS [sg]) = endsS sg l := by
  have hl : 1 ≤ l.length := by cases l with
    | nil => exact absurd rfl h
    | cons a r => simp
  have e : Txt.item (mkS l) (-1) = mkS [l[l.length - 1]'(Nat.sub_lt hl Nat.one_pos)] := item_neg (k := 1) hl (by decide)
  rw [e]
  unfold endsS
  rw [List.getLast?_eq_getElem?, List.getElem?_eq_getElem (Nat.sub_lt hl Nat.one_pos)]
  rw [Bool.eq_iff_iff, beq_iff_eq, beq_iff_eq]
  constructor
  · intro h; have := mkS_inj h; simpa using this
  · intro h; rw [Option.some.inj h]
theorem step_keeps {sg : Str} {ss : List Int} {x : Str} {v : Int} (hs : ss ≠ []) (h : ∃ e ∈ ss, v ≤ e) : ∃ e ∈ sizeStep sg ss x, v ≤ e := by
  obtain ⟨pre, z, rfl⟩ : ∃ pre z, ss = pre ++ [z] := ⟨ss.dropLast, ss.getLast hs, (List.dropLast_concat_getLast hs).symm⟩
  obtain ⟨e, he, hv⟩ := h
  rw [sizeStep_snoc]
  have key : ∃ e ∈ pre ++ [z + (1 + (x.length : Int))], v ≤ e := by
    rcases List.mem_append.mp he with he | he
    · exact ⟨e, List.mem_append_left _ he, hv⟩
    · rw [List.mem_singleton.mp he] at hv
      exact ⟨z + (1 + x.length), by simp, by lia⟩
  split
  · obtain ⟨e, he, hv⟩ := key
    exact ⟨e, List.mem_append_left _ he, hv⟩
  · exact key
theorem step_ne {sg : Str} {ss : List Int} {x : Str} : sizeStep sg ss x ≠ [] := by
  unfold sizeStep
  dsimp only
  split <;> simp
theorem fold_keeps {sg : Str} {v : Int} : ∀ (l : List Str) {ss : List Int}, ss ≠ [] → (∃ e ∈ ss, v ≤ e) → ∃ e ∈ l.foldl (sizeStep sg) ss, v ≤ e
  | [], _, _, h => h
  | x :: l, _, hs, h => fold_keeps l step_ne (step_keeps hs h)
theorem fold_ne {sg : Str} : ∀ (l : List Str) {ss : List Int}, ss ≠ [] → l.foldl (sizeStep sg) ss ≠ []
  | [], _, h => h
  | x :: l, _, _ => fold_ne l step_ne
/-- along a stretch the open size grows -/
theorem fold_stretch {sg : Nat} : ∀ (b : List (List Nat)) (pre : List Int) (z : Int), b ≠ [] → (∀ x ∈ b, x ≠ []) → (∀ x ∈ b.dropLast, endsS sg x = false) →
    ∃ e ∈ (b.map mkS).foldl (sizeStep (mkS [sg])) (pre ++ [z]), z + 1 + (blankJoin b).length ≤ e
  | [], _, _, h, _, _ => absurd rfl h
  | [w], pre, z, _, hne, _ => by
    show ∃ e ∈ sizeStep (mkS [sg]) (pre ++ [z]) (mkS w), _
    rw [sizeStep_snoc, mkS_len]
    split
    · exact ⟨z + (1 + w.length), by simp, by simp only [blankJoin]; lia⟩
    · exact ⟨z + (1 + w.length), by simp, by simp only [blankJoin]; lia⟩
  | w :: v :: r, pre, z, _, hne, hno => by
    have h1 : endsS sg w = false := hno w (by simp)
    have e : sizeStep (mkS [sg]) (pre ++ [z]) (mkS w) = pre ++ [z + (1 + (w.length : Int))] := by
      rw [sizeStep_snoc, item_last (hne w (.head _)), h1, mkS_len]; rfl
    obtain ⟨e', he', hv⟩ := fold_stretch (v :: r) pre (z + (1 + w.length)) (List.cons_ne_nil _ _) (fun x hx => hne x (.tail _ hx)) (fun x hx => hno x (by rw [List.dropLast_cons_of_ne_nil (List.cons_ne_nil _ _)]; exact .tail _ hx))
    refine ⟨e', ?_, ?_⟩
    · rw [List.map_cons, List.foldl_cons, e]; exact he'
    · refine Int.le_trans ?_ hv
      have : (blankJoin (w :: v :: r)).length = w.length + 1 + (blankJoin (v :: r)).length := by simp [blankJoin]; lia
      rw [this]; push_cast; lia
theorem fold_open {sg : Nat} {a : List (List Nat)} (hne : ∀ x ∈ a, x ≠ []) (ha : a = [] ∨ endsS sg (a.getLastD []) = true) :
    ∃ pre, (a.map mkS).foldl (sizeStep (mkS [sg])) [-1] = pre ++ [if a = [] then -1 else 0] := by
  rcases ha with rfl | ha
  · exact ⟨[], rfl⟩
  · have han : a ≠ [] := by rintro rfl; simp [endsS] at ha
    obtain ⟨a0, x, rfl⟩ : ∃ a0 x, a = a0 ++ [x] := ⟨a.dropLast, a.getLast han, (List.dropLast_concat_getLast han).symm⟩
    rw [if_neg han, List.map_append, List.foldl_append]
    have hs := fold_ne (sg := mkS [sg]) (a0.map mkS) (ss := [-1]) (by simp)
    generalize (a0.map mkS).foldl (sizeStep (mkS [sg])) [-1] = ss at hs
    obtain ⟨pre, z, rfl⟩ : ∃ pre z, ss = pre ++ [z] := ⟨ss.dropLast, ss.getLast hs, (List.dropLast_concat_getLast hs).symm⟩
    show ∃ pre', sizeStep (mkS [sg]) (pre ++ [z]) (mkS x) = pre' ++ [0]
    have hx : endsS sg x = true := by simpa using ha
    rw [sizeStep_snoc, item_last (hne x (by simp)), hx]
    exact ⟨_, rfl⟩
theorem segOK_of {sg W : Nat} {ws : List (List Nat)} (hne : ∀ x ∈ ws, x ≠ []) {M : Int} (hM : ((sizesOf (mkS [sg]) (ws.map mkS)).max?).getD 0 = M) (h : M ≤ W) : SegOK sg W ws := by
  intro a b c he hb ha hno
  subst he
  obtain ⟨pre, hpre⟩ := fold_open (sg := sg) (a := a) (fun x hx => hne x (by simp [hx])) ha
  obtain ⟨e, hem, hv⟩ := fold_stretch b pre (if a = [] then -1 else 0) hb (fun x hx => hne x (by simp [hx])) hno
  have hs : (b.map mkS).foldl (sizeStep (mkS [sg])) (pre ++ [if a = [] then -1 else 0]) ≠ [] := fold_ne _ (by simp)
  obtain ⟨e2, he2, hv2⟩ := fold_keeps (sg := mkS [sg]) (v := e) (c.map mkS) hs ⟨e, hem, Int.le_refl _⟩
  have hall : e2 ∈ sizesOf (mkS [sg]) ((a ++ b ++ c).map mkS) := by
    unfold sizesOf
    rw [List.map_append, List.map_append, List.foldl_append, List.foldl_append, hpre]
    exact he2
  have hle : e2 ≤ M := by
    cases hm : (sizesOf (mkS [sg]) ((a ++ b ++ c).map mkS)).max? with
    | none => rw [List.max?_eq_none_iff] at hm; rw [hm] at hall; cases hall
    | some m =>
      rw [hm] at hM
      have := (List.max?_eq_some_iff.mp hm).2 e2 hall
      simp only [Option.getD_some] at hM
      lia
  by_cases han : a = []
  · rw [if_pos han] at hv ⊢; lia
  · rw [if_neg han] at hv ⊢; lia
end
section
/-- rows with a line feed between each two -/
noncomputable def joinNl : List (List Nat) → List Nat
  | [] => []
  | [r] => r
  | r :: rs => r ++ 10 :: joinNl rs
noncomputable def rowsOf : List (List (List Nat)) → List (List Nat)
  | [] => []
  | g :: r => blankJoin g :: r.map fun k => 32 :: blankJoin k
theorem joinNl_cons (r : List Nat) {rs : List (List Nat)} (h : rs ≠ []) : joinNl (r :: rs) = r ++ 10 :: joinNl rs := by
  cases rs with
  | nil => exact absurd rfl h
  | cons a b => rfl
theorem join_mkS : ∀ rows : List (List Nat), rows ≠ [] → Str.join (Str.ofString "\n") (rows.map mkS) = mkS (joinNl rows)
  | [], h => absurd rfl h
  | [r], _ => rfl
  | r :: v :: rs, _ => by
    have e : Str.ofString "\n" = mkS [10] := by decide
    show mkS r ++ Str.ofString "\n" ++ Str.join (Str.ofString "\n") ((v :: rs).map mkS) = _
    rw [join_mkS (v :: rs) (List.cons_ne_nil _ _), e, mkS_app, mkS_app]
    rw [joinNl_cons r (List.cons_ne_nil v rs)]
    simp
theorem tail_rows : ∀ s : List (List (List Nat)), s ≠ [] → tailText s = 10 :: joinNl (s.map fun k => 32 :: blankJoin k)
  | [], h => absurd rfl h
  | [g], _ => by simp [tailText, joinNl]
  | g :: k :: r, _ => by
    have hn : (k :: r).map (fun k => 32 :: blankJoin k) ≠ [] := by simp
    show 10 :: 32 :: (blankJoin g ++ tailText (k :: r)) = 10 :: joinNl ((32 :: blankJoin g) :: (k :: r).map (fun k => 32 :: blankJoin k))
    rw [tail_rows (k :: r) (List.cons_ne_nil _ _), joinNl_cons (32 :: blankJoin g) hn]
    simp
theorem splitText_rows {s : List (List (List Nat))} (h : s ≠ []) : splitText s = joinNl (rowsOf s) := by
  cases s with
  | nil => exact absurd rfl h
  | cons g r =>
    by_cases hr : r = []
    · subst hr; simp [splitText, tailText, rowsOf, joinNl]
    · rw [splitText, rowsOf, joinNl_cons _ (by simpa using hr), tail_rows r hr]
/-- a list is one way alone cut at a sign -/
theorem cut_unique {c : Nat} : ∀ {a a' u u' : List Nat}, c ∉ a → c ∉ a' → a ++ c :: u = a' ++ c :: u' → a = a' ∧ u = u'
  | [], [], _, _, _, _, h => ⟨rfl, by simpa using h⟩
  | [], x :: a', _, _, _, h2, h => by
    simp at h
    exact absurd (h.1 ▸ List.mem_cons_self) h2
  | x :: a, [], _, _, h1, _, h => by
    simp at h
    exact absurd (h.1 ▸ List.mem_cons_self) h1
  | x :: a, y :: a', u, u', h1, h2, h => by
    simp at h
    obtain ⟨rfl, h⟩ := h
    obtain ⟨r1, r2⟩ := cut_unique (fun m => h1 (.tail _ m)) (fun m => h2 (.tail _ m)) h
    exact ⟨by rw [r1], r2⟩
theorem rows_unique : ∀ {rs ss : List (List Nat)}, rs ≠ [] → ss ≠ [] → (∀ r ∈ rs, 10 ∉ r) → (∀ r ∈ ss, 10 ∉ r) → joinNl rs = joinNl ss → rs = ss
  | [], _, h, _, _, _, _ => absurd rfl h
  | _, [], _, h, _, _, _ => absurd rfl h
  | [r], [t], _, _, _, _, h => by simpa [joinNl] using h
  | [r], t :: v :: ss, _, _, h1, _, h => by
    exfalso
    rw [joinNl_cons t (List.cons_ne_nil _ _)] at h
    refine h1 r (.head _) ?_
    have e : joinNl [r] = r := rfl
    rw [← e, h]
    simp
  | r :: v :: rs, [t], _, _, _, h2, h => by
    exfalso
    rw [joinNl_cons r (List.cons_ne_nil _ _)] at h
    refine h2 t (.head _) ?_
    have e : joinNl [t] = t := rfl
    rw [← e, ← h]
    simp
  | r :: v :: rs, t :: w :: ss, _, _, h1, h2, h => by
    rw [joinNl_cons r (List.cons_ne_nil _ _), joinNl_cons t (List.cons_ne_nil _ _)] at h
    obtain ⟨e1, e2⟩ := cut_unique (h1 r (.head _)) (h2 t (.head _)) h
    have := rows_unique (List.cons_ne_nil v rs) (List.cons_ne_nil w ss) (fun x hx => h1 x (.tail _ hx)) (fun x hx => h2 x (.tail _ hx)) e2
    rw [e1, this]
theorem blankJoin_free : ∀ {g : List (List Nat)}, (∀ w ∈ g, 10 ∉ w) → 10 ∉ blankJoin g
  | [], _ => by simp [blankJoin]
  | [w], h => h w (.head _)
  | w :: v :: r, h => by
    have h1 := h w (.head _)
    have h2 := blankJoin_free (g := v :: r) fun x hx => h x (.tail _ hx)
    simp only [blankJoin, List.mem_append, List.mem_cons, not_or]
    exact ⟨h1, by decide, h2⟩
theorem rowsOf_free {s : List (List (List Nat))} {ws : List (List Nat)} (hs : Groups s ws) (hw : ∀ w ∈ ws, 10 ∉ w) : ∀ r ∈ rowsOf s, 10 ∉ r := by
  have hg : ∀ g ∈ s, ∀ w ∈ g, 10 ∉ w := fun g hg w hwg => hw w (by rw [← hs.1]; exact List.mem_flatten.mpr ⟨g, hg, hwg⟩)
  intro r hr
  cases s with
  | nil => cases hr
  | cons g t =>
    rcases List.mem_cons.mp hr with rfl | hr
    · exact blankJoin_free (hg g (.head _))
    · obtain ⟨k, hk, rfl⟩ := List.mem_map.mp hr
      have := blankJoin_free (hg k (.tail _ hk))
      simp only [List.mem_cons, not_or]
      exact ⟨by decide, this⟩
/-- the rows of a folding -/
theorem split_folding {s : List (List (List Nat))} {ws : List (List Nat)} (hn : s ≠ []) (hs : Groups s ws) (hw : ∀ w ∈ ws, 10 ∉ w) : Txt.split (mkS (splitText s)) (Str.ofString "\n") = (rowsOf s).map mkS := by
  have e : Str.ofString "\n" = ⟨#[10]⟩ := by decide
  have hj := StrLaws.join_split (mkS (splitText s)) (Str.ofString "\n")
  have hf := StrLaws.split_free (mkS (splitText s)) 10
  rw [← e] at hf
  have hp := split_pos (mkS (splitText s)) (Str.ofString "\n")
  generalize Txt.split (mkS (splitText s)) (Str.ofString "\n") = X at hj hf hp
  have hX : X = (X.map fun x => x.cps.toList).map mkS := by
    rw [List.map_map]
    exact (List.map_id'' (fun x => mkS_cps x) X).symm
  generalize hL : X.map (fun x => x.cps.toList) = L at hX
  subst hX
  have hLn : L ≠ [] := by
    rintro rfl
    simp at hp
  rw [join_mkS L hLn] at hj
  have h1 := mkS_inj hj
  rw [splitText_rows hn] at h1
  have hrn : rowsOf s ≠ [] := by
    cases s with
    | nil => exact absurd rfl hn
    | cons g r => exact List.cons_ne_nil _ _
  rw [rows_unique hLn hrn (fun r hr => ?_) (rowsOf_free hs hw) h1]
  have := hf (mkS r) (List.mem_map.mpr ⟨r, hr, rfl⟩)
  rw [mkS_toList] at this
  exact this
end
section
theorem blankJoin_last : ∀ {g : List (List Nat)}, g ≠ [] → (∀ w ∈ g, w ≠ []) → (blankJoin g).getLast? = (g.getLastD []).getLast? ∧ blankJoin g ≠ []
  | [], h, _ => absurd rfl h
  | [w], _, h => ⟨rfl, h w (.head _)⟩
  | w :: v :: r, _, h => by
    obtain ⟨h1, h2⟩ := blankJoin_last (g := v :: r) (List.cons_ne_nil _ _) fun x hx => h x (.tail _ hx)
    refine ⟨?_, by simp [blankJoin]⟩
    show (w ++ 32 :: blankJoin (v :: r)).getLast? = _
    rw [List.getLast?_append, List.getLast?_cons_of_ne_nil h2, h1]
    have : (w :: v :: r).getLastD [] = (v :: r).getLastD [] := by simp [List.getLastD]
    rw [this]
    cases hh : ((v :: r).getLastD []).getLast? with
    | some x => rfl
    | none =>
      rw [← h1] at hh
      exact absurd (List.getLast?_eq_none_iff.mp hh) h2
theorem endsS_row {sg : Nat} {g : List (List Nat)} (hg : g ≠ []) (hw : ∀ w ∈ g, w ≠ []) : endsS sg (blankJoin g) = endsS sg (g.getLastD []) ∧ endsS sg (32 :: blankJoin g) = endsS sg (g.getLastD []) := by
  obtain ⟨h1, h2⟩ := blankJoin_last hg hw
  unfold endsS
  rw [List.getLast?_cons_of_ne_nil h2, h1]
  exact ⟨rfl, rfl⟩
/-- rows that fit -/
noncomputable def FitR (sg W : Nat) (rows : List (List Nat)) : Prop := (∀ r ∈ rows, r.length ≤ W) ∧ ∀ r ∈ rows.dropLast, endsS sg r = true
theorem fitR_one {sg W : Nat} {r : List Nat} : FitR sg W [r] ↔ r.length ≤ W := by
  unfold FitR; simp
theorem fitR_cons {sg W : Nat} {r : List Nat} {rs : List (List Nat)} (h : rs ≠ []) : FitR sg W (r :: rs) ↔ r.length ≤ W ∧ endsS sg r = true ∧ FitR sg W rs := by
  unfold FitR
  rw [List.dropLast_cons_of_ne_nil h]
  simp only [List.forall_mem_cons]
  constructor
  · rintro ⟨⟨a, b⟩, c, d⟩; exact ⟨a, c, b, d⟩
  · rintro ⟨a, c, b, d⟩; exact ⟨⟨a, b⟩, c, d⟩
theorem fitG_one {sg W : Nat} : ∀ {s : List (List (List Nat))}, s ≠ [] → (∀ g ∈ s, g ≠ []) → (∀ g ∈ s, ∀ w ∈ g, w ≠ []) → (FitG sg W 1 s ↔ FitR sg W (s.map fun k => 32 :: blankJoin k))
  | [], h, _, _ => absurd rfl h
  | [g], _, _, _ => by
    rw [List.map_cons, List.map_nil, fitR_one]
    simp only [FitG, List.length_cons]; rw [Nat.add_comm]
  | g :: k :: r, _, hg, hw => by
    have ih := fitG_one (sg := sg) (W := W) (s := k :: r) (List.cons_ne_nil _ _) (fun x hx => hg x (.tail _ hx)) (fun x hx => hw x (.tail _ hx))
    rw [List.map_cons, fitR_cons (by simp), ← ih, (endsS_row (hg g (.head _)) (hw g (.head _))).2]
    simp only [FitG, List.length_cons]
    rw [Nat.add_comm 1]
theorem fitG_zero {sg W : Nat} {s : List (List (List Nat))} (hn : s ≠ []) (hg : ∀ g ∈ s, g ≠ []) (hw : ∀ g ∈ s, ∀ w ∈ g, w ≠ []) : FitG sg W 0 s ↔ FitR sg W (rowsOf s) := by
  cases s with
  | nil => exact absurd rfl hn
  | cons g r =>
    cases r with
    | nil =>
      simp only [rowsOf, List.map_nil]
      rw [fitR_one]
      simp only [FitG]; rw [Nat.zero_add]
    | cons k r =>
      simp only [rowsOf]
      rw [fitR_cons (by simp), ← fitG_one (List.cons_ne_nil _ _) (fun x hx => hg x (.tail _ hx)) (fun x hx => hw x (.tail _ hx)), (endsS_row (hg g (.head _)) (hw g (.head _))).1]
      simp only [FitG, Nat.zero_add]
theorem rowsOf_ne {s : List (List (List Nat))} (hg : ∀ g ∈ s, g ≠ []) (hw : ∀ g ∈ s, ∀ w ∈ g, w ≠ []) : ∀ r ∈ rowsOf s, r ≠ [] := by
  intro r hr
  cases s with
  | nil => cases hr
  | cons g t =>
    rcases List.mem_cons.mp hr with rfl | hr
    · exact (blankJoin_last (hg g (.head _)) (hw g (.head _))).2
    · obtain ⟨k, _, rfl⟩ := List.mem_map.mp hr
      exact List.cons_ne_nil _ _
/-- what _law_fits answers of a folding -/
theorem fitsB_iff {sg W : Nat} {s : List (List (List Nat))} {ws : List (List Nat)} (hn : s ≠ []) (hs : Groups s ws) (hw : ∀ w ∈ ws, 10 ∉ w ∧ w ≠ []) : fitsB (mkS (splitText s)) (mkS [sg]) W = true ↔ FitG sg W 0 s := by
  have hgw : ∀ g ∈ s, ∀ w ∈ g, w ≠ [] := fun g hg w hwg => (hw w (by rw [← hs.1]; exact List.mem_flatten.mpr ⟨g, hg, hwg⟩)).2
  rw [fitG_zero hn hs.2 hgw]
  have hr := rowsOf_ne hs.2 hgw
  unfold fitsB
  rw [split_folding hn hs fun w h => (hw w h).1]
  rw [Bool.and_eq_true, decide_eq_true_iff, decide_eq_true_iff, List.filter_eq_nil_iff, List.filter_eq_nil_iff]
  unfold FitR
  constructor
  · rintro ⟨h1, h2⟩
    refine ⟨fun r h => ?_, fun r h => ?_⟩
    · have := h1 (mkS r) (List.mem_map.mpr ⟨r, h, rfl⟩)
      rw [mkS_len] at this
      simp at this
      omega
    · have := h2 (mkS r) (by rw [← List.map_dropLast]; exact List.mem_map.mpr ⟨r, h, rfl⟩)
      rw [← item_last (hr r (List.dropLast_subset _ h)) sg]
      simpa using this
  · rintro ⟨h1, h2⟩
    refine ⟨fun x hx => ?_, fun x hx => ?_⟩
    · obtain ⟨r, h, rfl⟩ := List.mem_map.mp hx
      have := h1 r h
      rw [mkS_len]
      simp
      omega
    · rw [← List.map_dropLast] at hx
      obtain ⟨r, h, rfl⟩ := List.mem_map.mp hx
      have := h2 r h
      rw [← item_last (hr r (List.dropLast_subset _ h)) sg] at this
      simpa using this
end
section
theorem mem_places {gs : List (Nat × Bool)} {fo : List Nat} {q : Int} : ∀ {i : Nat}, q ∈ placesTo gs fo i ↔ q ∈ placesTo gs fo 0 ∧ ∀ j, j < i → okAt gs fo (1 + (j : Int) * 1) q = true
  | 0 => ⟨fun h => ⟨h, fun j hj => absurd hj (Nat.not_lt_zero _)⟩, fun h => h.1⟩
  | i + 1 => by
    show q ∈ (placesTo gs fo i).filter _ ↔ _
    rw [List.mem_filter, mem_places (i := i)]
    constructor
    · rintro ⟨⟨h1, h2⟩, h3⟩
      refine ⟨h1, fun j hj => ?_⟩
      by_cases h : j < i
      · exact h2 j h
      · have : j = i := by lia
        subst this; exact h3
    · rintro ⟨h1, h2⟩
      exact ⟨⟨h1, fun j hj => h2 j (by lia)⟩, h2 i (by lia)⟩
theorem mem_places0 {gs : List (Nat × Bool)} {fo : List Nat} {q : Int} : q ∈ placesTo gs fo 0 ↔ (gs.length : Int) ≤ q ∧ q ≤ (fo.length : Int) := by
  unfold placesTo rangeKs
  rw [mkS_len, List.mem_map]
  constructor
  · rintro ⟨i, hi, rfl⟩
    rw [List.mem_range] at hi
    exact ⟨Int.le_add_of_nonneg_right (Int.natCast_nonneg i), Int.le_of_lt_add_one (Int.add_lt_of_lt_sub_left (Int.lt_toNat.mp hi))⟩
  · rintro ⟨h1, h2⟩
    exact ⟨(q - gs.length).toNat, List.mem_range.mpr ((Int.toNat_lt_toNat (Int.sub_pos_of_lt (Int.lt_add_one_of_le (Int.le_trans h1 h2)))).mpr (Int.sub_lt_sub_right (Int.lt_add_one_of_le h2) _)), by rw [Int.toNat_of_nonneg (Int.sub_nonneg_of_le h1), Int.add_comm, Int.sub_add_cancel]⟩
/-- the answer of _law_taken in plain words -/
theorem sb1 {p j : Nat} (h : j + 1 ≤ p) : (p : Int) - (1 + (j : Int) * 1) = ((p - 1 - j : Nat) : Int) := by
  rw [Int.mul_one, Nat.sub_sub, Int.ofNat_sub (by rw [Nat.add_comm]; exact h), Int.natCast_add]; rfl
theorem places_ne {gs : List (Nat × Bool)} {fo : List Nat} : (!decide (placesTo gs fo gs.length = [])) = true ↔ ∃ p : Nat, gs.length ≤ p ∧ p ≤ fo.length ∧ ∀ j, j < gs.length → ((fo.getD (p - 1 - j) 0 == (gs.getD (gs.length - 1 - j) (0, false)).1) != (gs.getD (gs.length - 1 - j) (0, false)).2) = true := by
  rw [Bool.not_eq_true', decide_eq_false_iff_not]
  have ok : ∀ (p j : Nat), gs.length ≤ p → p ≤ fo.length → j < gs.length → okAt gs fo (1 + (j : Int) * 1) (p : Int) = ((fo.getD (p - 1 - j) 0 == (gs.getD (gs.length - 1 - j) (0, false)).1) != (gs.getD (gs.length - 1 - j) (0, false)).2) := by
    intro p j h1 h2 h3
    unfold okAt
    have hp : j + 1 ≤ p := Nat.le_trans h3 h1
    have e1 : ((gs.length : Int) - (1 + (j : Int) * 1)).toNat = gs.length - 1 - j := by rw [sb1 h3, Int.toNat_natCast]
    have e4 : p - 1 - j < fo.length := Nat.lt_of_le_of_lt (Nat.sub_le _ _) (Nat.lt_of_lt_of_le (Nat.sub_lt (Nat.lt_of_lt_of_le (Nat.succ_pos j) hp) Nat.one_pos) h2)
    rw [e1, sb1 hp, item_nat e4]
    congr 1
    have e3 : fo.getD (p - 1 - j) 0 = fo[p - 1 - j]'e4 := by
      rw [List.getD_eq_getElem?_getD, List.getElem?_eq_getElem e4, Option.getD_some]
    rw [e3, Bool.eq_iff_iff, beq_iff_eq, beq_iff_eq]
    constructor
    · intro h; have := mkS_inj h; exact (List.cons.inj this).1
    · intro h; rw [h]
  constructor
  · intro h
    obtain ⟨q, hq⟩ := List.exists_mem_of_ne_nil _ h
    obtain ⟨h0, hj⟩ := mem_places.mp hq
    obtain ⟨h1, h2⟩ := mem_places0.mp h0
    obtain ⟨p, rfl⟩ := Int.eq_ofNat_of_zero_le (show (0 : Int) ≤ q by lia)
    refine ⟨p, by lia, by lia, fun j hlt => ?_⟩
    rw [← ok p j (by lia) (by lia) hlt]
    exact hj j hlt
  · rintro ⟨p, h1, h2, h3⟩ he
    have : (p : Int) ∈ placesTo gs fo gs.length := mem_places.mpr ⟨mem_places0.mpr ⟨by lia, by lia⟩, fun j hlt => by rw [ok p j h1 h2 hlt]; exact h3 j hlt⟩
    rw [he] at this
    cases this

theorem infix_row {v : List Nat} (hv : 10 ∉ v) (hn : v ≠ []) : ∀ {rows : List (List Nat)} {u z : List Nat}, joinNl rows = u ++ v ++ z → ∃ r ∈ rows, v.length ≤ r.length
  | [], u, z, h => by
    have := congrArg List.length h
    simp [joinNl] at this
    have : v = [] := List.length_eq_zero_iff.mp (by lia)
    exact absurd this hn
  | [r], u, z, h => by
    refine ⟨r, .head _, ?_⟩
    have e : joinNl [r] = r := rfl
    rw [e] at h
    rw [h]; simp; lia
  | r :: t :: rs, u, z, h => by
    rw [joinNl_cons r (List.cons_ne_nil _ _), List.append_assoc] at h
    rcases List.append_eq_append_iff.mp h with ⟨m, h1, h2⟩ | ⟨m, h1, h2⟩
    · -- u = r ++ m, 10 :: T = m ++ (v ++ z)
      cases m with
      | nil =>
        exfalso
        rw [List.nil_append] at h2
        cases v with
        | nil => exact hn rfl
        | cons a v =>
          simp at h2
          exact hv (h2.1 ▸ List.mem_cons_self)
      | cons a m =>
        simp at h2
        obtain ⟨_, h2⟩ := h2
        obtain ⟨x, hx, hl⟩ := infix_row hv hn (u := m) (z := z) (by rw [h2]; simp)
        exact ⟨x, .tail _ hx, hl⟩
    · -- r = u ++ m, v ++ z = m ++ 10 :: T
      rcases List.append_eq_append_iff.mp h2 with ⟨n, h3, h4⟩ | ⟨n, h3, h4⟩
      · -- m = v ++ n
        refine ⟨r, .head _, ?_⟩
        rw [h1, h3]; simp; lia
      · -- v = m ++ n, 10 :: T = n ++ z
        cases n with
        | nil =>
          rw [List.append_nil] at h3
          refine ⟨r, .head _, ?_⟩
          rw [h1, h3]; simp
        | cons a n =>
          simp at h4
          exfalso
          exact hv (by rw [h3, h4.1]; simp)
theorem row_infix {r : List Nat} : ∀ {rows : List (List Nat)}, r ∈ rows → ∃ u z, joinNl rows = u ++ r ++ z
  | [t], h => by rw [List.mem_singleton.mp h]; exact ⟨[], [], by simp [joinNl]⟩
  | t :: v :: rs, h => by
    rw [joinNl_cons t (List.cons_ne_nil _ _)]
    rcases List.mem_cons.mp h with rfl | h
    · exact ⟨[], 10 :: joinNl (v :: rs), by simp⟩
    · obtain ⟨u, z, e⟩ := row_infix h
      exact ⟨t ++ 10 :: u, z, by rw [e]; simp⟩
/-- a wide row: n signs in a row that are no line feeds -/
theorem taken_wide {rows : List (List Nat)} (hr : ∀ r ∈ rows, 10 ∉ r) {n : Nat} (hn : 0 < n) :
    (!decide (placesTo (List.replicate n (10, true)) (joinNl rows) (List.replicate n (10, true)).length = [])) = true ↔ ∃ r ∈ rows, n ≤ r.length := by
  rw [places_ne]
  simp only [List.length_replicate]
  have gd : ∀ j, j < n → (List.replicate n (10, true)).getD (n - 1 - j) (0, false) = (10, true) := fun j hj => by
    rw [List.getD_eq_getElem?_getD, List.getElem?_replicate, if_pos (nb1 hn)]; rfl
  constructor
  · rintro ⟨p, h1, h2, h3⟩
    have hv : 10 ∉ ((joinNl rows).drop (p - n)).take n := by
      intro hm
      obtain ⟨k, hk, e⟩ := List.mem_iff_getElem.mp hm
      rw [List.length_take, List.length_drop] at hk
      have h4 := h3 (n - 1 - k) (nb1 hn)
      have hk1 := Nat.lt_of_lt_of_le hk (Nat.min_le_left _ _)
      rw [gd _ (nb1 hn)] at h4
      have e2 : p - 1 - (n - 1 - k) = p - n + k := nb2 h1 hk1
      rw [e2, List.getD_eq_getElem?_getD, List.getElem?_eq_getElem (nb3 h1 hk1 h2)] at h4
      rw [List.getElem_take, List.getElem_drop] at e
      rw [Option.getD_some, e] at h4
      simp at h4
    have hl : (((joinNl rows).drop (p - n)).take n).length = n := by rw [List.length_take, List.length_drop]; exact nb4 h1 h2
    obtain ⟨r, hr1, hr2⟩ := infix_row hv (by intro e; rw [e] at hl; simp at hl; lia) (rows := rows) (u := (joinNl rows).take (p - n)) (z := (joinNl rows).drop p) (by
      have a := List.take_append_drop (p - n) (joinNl rows)
      have b := List.take_append_drop n ((joinNl rows).drop (p - n))
      rw [List.drop_drop] at b
      have e : p - n + n = p := Nat.sub_add_cancel h1
      rw [e] at b
      rw [List.append_assoc, b, a])
    exact ⟨r, hr1, by rw [hl] at hr2; exact hr2⟩
  · rintro ⟨r, hm, hl⟩
    obtain ⟨u, z, e⟩ := row_infix hm
    refine ⟨u.length + n, by lia, by rw [e]; simp; lia, fun j hj => ?_⟩
    rw [gd j hj]
    have e2 : u.length + n - 1 - j = u.length + (n - 1 - j) := nb5 hj
    have e3 : (joinNl rows).getD (u.length + (n - 1 - j)) 0 = r[n - 1 - j]'(nb6 hn hl) := by
      rw [e, List.getD_eq_getElem?_getD, List.append_assoc, List.getElem?_append_right (Nat.le_add_right _ _)]
      rw [Nat.add_sub_cancel_left, List.getElem?_append_left (nb6 hn hl), List.getElem?_eq_getElem (nb6 hn hl)]
      rfl
    rw [e2, e3]
    have : r[n - 1 - j]'(nb6 hn hl) ≠ 10 := fun e => hr r hm (e ▸ List.getElem_mem _)
    simp [this]
theorem loose_row {sg : Nat} : ∀ {rows : List (List Nat)} {y z : List Nat}, (∀ r ∈ rows, 10 ∉ r ∧ r ≠ []) → y ≠ [] → y.getLast? ≠ some sg → joinNl rows = y ++ 10 :: z → ∃ r ∈ rows.dropLast, endsS sg r = false
  | [], y, z, _, hy, _, h => by simp [joinNl] at h
  | [r], y, z, hr, _, _, h => by
    exfalso
    have e : joinNl [r] = r := rfl
    rw [e] at h
    exact (hr r (.head _)).1 (by rw [h]; simp)
  | r :: t :: rs, y, z, hr, hy, hs, h => by
    rw [joinNl_cons r (List.cons_ne_nil _ _)] at h
    rw [List.dropLast_cons_of_ne_nil (List.cons_ne_nil _ _)]
    rcases List.append_eq_append_iff.mp h with ⟨m, h1, h2⟩ | ⟨m, h1, h2⟩
    · -- y = r ++ m
      cases m with
      | nil =>
        rw [List.append_nil] at h1
        refine ⟨r, .head _, ?_⟩
        unfold endsS
        rw [← h1]
        simpa using hs
      | cons a m =>
        simp at h2
        obtain ⟨rfl, h2⟩ := h2
        have hmn : m ≠ [] := by
          rintro rfl
          simp at h2
          have ht := hr t (by simp)
          cases t with
          | nil => exact ht.2 rfl
          | cons b t =>
            cases rs with
            | nil => simp [joinNl] at h2; exact ht.1 (h2.1 ▸ List.mem_cons_self)
            | cons c rs => simp [joinNl] at h2; exact ht.1 (h2.1 ▸ List.mem_cons_self)
        have hl : m.getLast? ≠ some sg := by
          rw [h1, List.getLast?_append, List.getLast?_cons_of_ne_nil hmn] at hs
          cases hh : m.getLast? with
          | none => intro e; cases e
          | some v => rw [hh] at hs; exact hs
        obtain ⟨x, hx, hl2⟩ := loose_row (fun x hx => hr x (.tail _ hx)) hmn hl h2
        exact ⟨x, .tail _ hx, hl2⟩
    · -- r = y ++ m, 10 :: z = m ++ 10 :: T
      cases m with
      | nil =>
        rw [List.append_nil] at h1
        refine ⟨r, .head _, ?_⟩
        unfold endsS
        rw [h1]
        simpa using hs
      | cons a m =>
        exfalso
        simp at h2
        exact (hr r (.head _)).1 (by rw [h1, ← h2.1]; simp)
theorem row_loose {r : List Nat} : ∀ {rows : List (List Nat)}, r ∈ rows.dropLast → (∀ r ∈ rows, r ≠ []) → ∃ u z, joinNl rows = u ++ r ++ 10 :: z
  | [], h, _ => by cases h
  | [t], h, _ => by cases h
  | t :: v :: rs, h, hr => by
    rw [List.dropLast_cons_of_ne_nil (List.cons_ne_nil _ _)] at h
    rw [joinNl_cons t (List.cons_ne_nil _ _)]
    rcases List.mem_cons.mp h with rfl | h
    · exact ⟨[], joinNl (v :: rs), by simp⟩
    · obtain ⟨u, z, e⟩ := row_loose h fun x hx => hr x (.tail _ hx)
      exact ⟨t ++ 10 :: u, z, by rw [e]; simp⟩
/-- a row that does not end with the sign -/
theorem taken_loose {sg : Nat} {rows : List (List Nat)} (hr : ∀ r ∈ rows, 10 ∉ r ∧ r ≠ []) :
    (!decide (placesTo [(sg, true), (10, false)] (joinNl rows) [(sg, true), (10, false)].length = [])) = true ↔ ∃ r ∈ rows.dropLast, endsS sg r = false := by
  rw [places_ne]
  constructor
  · rintro ⟨p, h1, h2, h3⟩
    have a := h3 0 (Nat.zero_lt_succ 1)
    have b := h3 1 (Nat.lt_succ_self 1)
    simp at a b h1
    have e : joinNl rows = (joinNl rows).take (p - 1) ++ 10 :: (joinNl rows).drop p := by
      have c := List.take_append_drop (p - 1) (joinNl rows)
      rw [List.drop_eq_getElem_cons (nb10 h1 h2)] at c
      have d : (joinNl rows)[p - 1]'(nb10 h1 h2) = 10 := by
        rw [List.getElem?_eq_getElem (nb10 h1 h2)] at a
        simpa using a
      rw [d, Nat.sub_add_cancel (Nat.le_of_succ_le h1)] at c
      exact c.symm
    refine loose_row hr ?_ ?_ e
    · intro e2
      have := congrArg List.length e2
      rw [List.length_take, List.length_nil, Nat.min_eq_left (Nat.le_trans (Nat.sub_le ..) h2)] at this
      exact absurd (Nat.le_of_sub_eq_zero this) (Nat.not_le_of_lt h1)
    · have hb : p - 1 - 1 < (joinNl rows).length := Nat.lt_trans (nb9 h1) (nb10 h1 h2)
      rw [List.getLast?_eq_getElem?, List.length_take, List.getElem?_take]
      rw [nb7 (Nat.lt_of_lt_of_le Nat.two_pos h1) h2, if_pos (nb9 h1)]
      rw [List.getElem?_eq_getElem hb] at b ⊢
      intro e3
      exact b (Option.some.inj e3)
  · rintro ⟨r, hm, hs⟩
    obtain ⟨u, z, e⟩ := row_loose hm fun x hx => (hr x hx).2
    have hrn := (hr r (List.dropLast_subset _ hm)).2
    have hl : 1 ≤ r.length := by cases r with
      | nil => exact absurd rfl hrn
      | cons a b => simp
    refine ⟨u.length + r.length + 1, by simp; lia, by rw [e]; simp; lia, fun j hj => ?_⟩
    rw [e]
    have hj' : j = 0 ∨ j = 1 := by simp at hj; lia
    rcases hj' with rfl | rfl
    · simp
    · have e2 : u.length + r.length + 1 - 1 - 1 = u.length + (r.length - 1) := nb11 hl
      rw [e2, List.getD_eq_getElem?_getD, List.append_assoc, List.getElem?_append_right (Nat.le_add_right _ _), Nat.add_sub_cancel_left, List.getElem?_append_left (Nat.sub_lt hl Nat.one_pos)]
      unfold endsS at hs
      rw [List.getLast?_eq_getElem?] at hs
      rw [List.getElem?_eq_getElem (Nat.sub_lt hl Nat.one_pos)] at hs ⊢
      simpa using hs
end
section
theorem foldsOf_mkS {ws : List (List Nat)} (h : ws ≠ []) : foldsOf (ws.map mkS) = (foldL ws).map mkS := by
  cases ws with
  | nil => exact absurd rfl h
  | cons w ws =>
    have e1 : Str.ofString "\n " = mkS [10, 32] := by decide
    have e2 : Str.ofString " " = mkS [32] := by decide
    have key : ∀ (l fs : List (List Nat)), (l.map mkS).foldl foldStep (fs.map mkS) = (l.foldl (fun fs x => fs.flatMap fun f => [f ++ 10 :: 32 :: x, f ++ 32 :: x]) fs).map mkS := by
      intro l
      induction l with
      | nil => intro fs; rfl
      | cons x l ih =>
        intro fs
        rw [List.map_cons, List.foldl_cons, List.foldl_cons, ← ih]
        congr 1
        delta foldStep
        rw [e1, e2, List.flatMap_map, List.map_flatMap]
        congr 1
        funext f
        rw [mkS_app, mkS_app, mkS_app, mkS_app]
        simp
    exact key ws [w]
noncomputable def tk1 (W : Nat) (f : List Nat) : Bool := !decide (placesTo (List.replicate (W + 1) (10, true)) f (List.replicate (W + 1) (10, true)).length = [])
noncomputable def tk2 (sg : Nat) (f : List Nat) : Bool := !decide (placesTo [(sg, true), (10, false)] f [(sg, true), (10, false)].length = [])
/-- how often a folding is taken -/
noncomputable def cntL (sg W : Nat) (f : List Nat) : Nat := (if tk1 W f then 1 else 0) + (if tk2 sg f then 1 else 0)
theorem cntL_le (sg W : Nat) (f : List Nat) : cntL sg W f ≤ 2 := by
  delta cntL
  cases tk1 W f <;> cases tk2 sg f <;> decide
theorem cntL_zero (sg W : Nat) (f : List Nat) : (decide (cntL sg W f = 0)) = (!tk1 W f && !tk2 sg f) := by
  delta cntL
  cases tk1 W f <;> cases tk2 sg f <;> rfl
section
variable {sg W : Nat} {ws : List (List Nat)} {f : List Nat}
theorem fits_not_taken (hn : ws ≠ []) (hw : ∀ w ∈ ws, 10 ∉ w ∧ w ≠ []) (hf : f ∈ foldL ws) : fitsB (mkS f) (mkS [sg]) W = decide (cntL sg W f = 0) := by
  obtain ⟨s, hs, rfl⟩ := (mem_foldL hn).mp hf
  have hsn : s ≠ [] := by rintro rfl; exact hn hs.1.symm
  have hgw : ∀ g ∈ s, ∀ w ∈ g, w ≠ [] := fun g hg w hwg => (hw w (by rw [← hs.1]; exact List.mem_flatten.mpr ⟨g, hg, hwg⟩)).2
  have hfree := rowsOf_free hs fun w h => (hw w h).1
  have hne := rowsOf_ne hs.2 hgw
  rw [cntL_zero, Bool.eq_iff_iff, fitsB_iff hsn hs hw, fitG_zero hsn hs.2 hgw]
  have h1 := taken_wide hfree (n := W + 1) (Nat.succ_pos _)
  have h2 := taken_loose (sg := sg) (rows := rowsOf s) fun r hr => ⟨hfree r hr, hne r hr⟩
  rw [← splitText_rows hsn] at h1 h2
  delta tk1 tk2 FitR
  rw [Bool.and_eq_true, Bool.not_eq_true', Bool.not_eq_true', ← Bool.not_eq_true, ← Bool.not_eq_true, h1, h2]
  constructor
  · rintro ⟨a, b⟩
    refine ⟨?_, ?_⟩
    · rintro ⟨r, hr, hl⟩; exact Nat.not_le.mpr hl (a r hr)
    · rintro ⟨r, hr, hl⟩; rw [b r hr] at hl; cases hl
  · rintro ⟨a, b⟩
    refine ⟨fun r hr => ?_, fun r hr => ?_⟩
    · false_or_by_contra
      exact a ⟨r, hr, Nat.lt_of_not_le (by assumption)⟩
    · cases hh : endsS sg r with
      | true => rfl
      | false => exact absurd ⟨r, hr, hh⟩ b
theorem parts_irrefl {a b : List Nat} (h1 : Parts a b) (h2 : Parts b a) : False := by
  have h3 : a < a := List.lt_trans h1.lt h2.lt
  exact List.lt_irrefl a h3
/-- the greatest of the foldings that fit is the one that the writer makes -/
theorem left_last {w : List Nat} {rest : List (List Nat)} (hw : ∀ x ∈ w :: rest, 10 ∉ x ∧ x ≠ []) {M : Int} (hM : ((sizesOf (mkS [sg]) ((w :: rest).map mkS)).max?).getD 0 = M) (h : M ≤ W) :
    ∃ L, (foldL (w :: rest)).filter (fun f => fitsB (mkS f) (mkS [sg]) W) = L ++ [splitText (wr sg W 0 [w] rest)] ∧ ∀ f ∈ L, Parts f (splitText (wr sg W 0 [w] rest)) := by
  have hn : w :: rest ≠ [] := List.cons_ne_nil _ _
  have hseg : SegOK sg W (w :: rest) := segOK_of (fun x hx => (hw x hx).2) hM h
  have hlen : 0 + (blankJoin [w]).length ≤ W := by
    have := hseg [] [w] rest rfl (List.cons_ne_nil _ _) (.inl rfl) (fun x hx => by cases hx)
    simpa using this
  obtain ⟨g1, g2, g3⟩ := greedy (sg := sg) (W := W) rest [] [w] 0 (List.cons_ne_nil _ _) hseg (.inl ⟨rfl, rfl⟩) hlen
  generalize wr sg W 0 [w] rest = s at g1 g2 g3
  have g1' : Groups s (w :: rest) := g1
  have hsn : s ≠ [] := by rintro rfl; exact hn g1'.1.symm
  generalize hleft : (foldL (w :: rest)).filter (fun f => fitsB (mkS f) (mkS [sg]) W) = left
  have hmem : splitText s ∈ left := by
    rw [← hleft, List.mem_filter]
    exact ⟨(mem_foldL hn).mpr ⟨s, g1', rfl⟩, (fitsB_iff hsn g1' hw).mpr g2⟩
  have hall : ∀ f ∈ left, f = splitText s ∨ Parts f (splitText s) := by
    intro f hf
    rw [← hleft, List.mem_filter] at hf
    obtain ⟨s', hs', rfl⟩ := (mem_foldL hn).mp hf.1
    have hsn' : s' ≠ [] := by rintro rfl; exact hn hs'.1.symm
    rcases g3 s' hs' ((fitsB_iff hsn' hs' hw).mp hf.2) with rfl | h
    · exact .inl rfl
    · exact .inr h
  have hpw : left.Pairwise Parts := by rw [← hleft]; exact (foldL_pairwise _).filter _
  have hln : left ≠ [] := by rintro rfl; cases hmem
  obtain ⟨L, z, rfl⟩ : ∃ L z, left = L ++ [z] := ⟨left.dropLast, left.getLast hln, (List.dropLast_concat_getLast hln).symm⟩
  rw [List.pairwise_append] at hpw
  have hz : z = splitText s := by
    rcases hall z (by simp) with h | h
    · exact h
    · rcases List.mem_append.mp hmem with hm | hm
      · exact (parts_irrefl h (hpw.2.2 _ hm z (by simp))).elim
      · exact (List.mem_singleton.mp hm).symm
  subst hz
  exact ⟨L, rfl, fun f hf => hpw.2.2 f hf _ (by simp)⟩
end
end
section
theorem gm_no {s : Shared} {x : Str} {t : Tok} (a : Addr) (e : Value.str x t = .ref a) : ∃ o, s.heap.get? a = some o ∧ o.dict = none := nomatch e
theorem gm_translate {M : Model} {A : Around} {E : Value → Shared → Prop} {s : Shared} {x : Str} {t : Tok} {pl : Sem Bool} {Q : Value × List Value → Shared → Prop} (h : Q (.builtin "str.translate", [.str x t]) s) : wpAny M A (getMethod (.str x t) "translate" pl) Q E s := by
  with_reducible exact getMethod_builtin (typeIs_str _ _ _) PySem.F.plainAttrs_str PySem.F.slot_str_translate PySem.F.type_str_translate gm_no h
local macro_rules | `(tactic| walk_at "getMethod str") => `(tactic| with_reducible refine Mine.gm_translate ?_)
local macro_rules | `(tactic| walk_at "call builtin:str.translate") => `(tactic| walk_at "M stop")
theorem escapeC {w : World} {p : Program} {loose : List Str} {mean : ExcName → Option Value} {mg mb : Str → Option Value} (t1 : Tok)
    (dp un : Nat) (gd : Option (List Code)) (cn : Str) (cs : Scope) (a : Addr) (ccd : Value) (cl : List (Str × Addr)) (outer : List Env) (A₀ : Around) (base h₀ : Heap) (L : Addr) (m : Str → Option Value) (s : Shared) (Q E : Value → Shared → Prop)
    (B : Below A₀ base outer h₀) (F : Fr h₀ L s.heap m) (X : (Mine.hd.heap_1 w.params).In h₀) (T : Top p loose mean mg mb h₀) (hk : cs.kind = .function) (hd : dp + 8 < recursionLimit) (hu : un + 200 < cLine)
    (hret : ∀ t h' tk', (∀ b o, s.heap.get? b = some o → h'.get? b = some o) → Q (.str (mkS [92, 10]) t) { s with heap := h', toks := tk' }) :
    wpAny (model PySem.Challenge.rw_ik0127_01.row.prog w) (ktrTop dp un gd cn cs L a ccd cl outer) (call (.ref 223) [.str (Str.ofString "\n") t1]) Q E s := by
  revert X T; k_fill; intro X T
  refine wpAny_call ?_
  k_dflt (refine' Mine.enterP ?k1 ?k2 ?k3 ?k5 ?kA ?kF ?kK ?k6 ?k7 ?k8 ?k9 ?kB ?_ ?c2 ?c3 ?c4 ?c5; (case kA | kF => exact rfl); (case kK => assumption); (case k1 | k2 | k3 | k5 => k_asm); (case k6 | k7 => k_is); (case k8 => ktr_room); (case k9 => exact BindsTo.of_eq rfl); (case c5 => decide); (case kB => exact locs rfl); (case c2 | c3 | c4 => exact rfl); k_whole; intro _ _ _ _ _ _ _; (try dsimp only); (try k_fold))
  k_steps
  k_dflt (refine Mine.escapeNl _ (by k_in) ?_)
  intro _ _ _ _
  k_steps
  all_goals (rename_i hk9; exact toV (congrArg (Value.str · _) (by decide)) (hret _ _ _ fun b o e => hk9 b o ((‹Fr _ _ _ _› : Fr s.heap _ _ _).keep b o e)))
end
section
/-- a piece of a pattern: a star, a group [!c], a line feed -/
inductive It where
  | star | cls (c : Nat) | nl
noncomputable def It.txt : It → List Nat
  | .star => [42]
  | .cls c => [91, 33, c, 93]
  | .nl => [10]
noncomputable def It.ok : It → Prop
  | .cls c => c = 10 ∨ c = 59 ∨ c = 44
  | _ => True
noncomputable def flat (its : List It) : List Nat := its.flatMap It.txt
/-- what stands for a piece in the list that _translate gives back -/
noncomputable def PcIs (sa : Addr) (v : Value) : It → Prop
  | .star => v = .ref sa
  | .cls c => ∃ t, v = .str (mkS [91, 94, c, 93]) t
  | .nl => ∃ t, v = .str (mkS [92, 10]) t
/-- no two stars side by side -/
noncomputable def Calm : List It → Prop
  | .star :: .star :: _ => False
  | _ :: r => Calm r
  | [] => True
local macro_rules | `(tactic| walk_at "callWith ref") => `(tactic| (k_here; (with_reducible show wpAny _ _ (callWith _ (Value.ref _) _ (backTo _ (starEach (_ :: _) _)) []) _ _ _); k_dflt (refine' Mine.callWith_b ?k1 ?k2 ?_; (case k1 => k_asm); (case k2 => k_mem); k_whole)))
local macro_rules | `(tactic| walk_at "keeperOf ref") => `(tactic| (k_here; k_dflt (refine' Mine.keeper_bound ?k1 ?k2 ?_; (case k1 => k_asm); (case k2 => k_mem); k_whole); (try dsimp only)))
local macro_rules | `(tactic| walk_at "call ref") => `(tactic| (k_here; k_dflt (refine' Mine.call_boundAppend ?k0 ?k1 ?k2 ?k3 ?_ ?z; (case k1 | k2 => k_asm); (case k0 => k_mem); (case k3 => k_upd); (case z => first | with_reducible assumption | size_fits); k_whole); intro _ _ _))
local macro_rules | `(tactic| walk_at "subscriptTail Name UnaryOp ref int") => `(tactic| (k_here; (with_unfolding_all refine' Mine.item_lastV ?k1 ?_ ?k2; (case k2 => with_unfolding_all rfl); (case k1 => is_list); k_whole)))
local macro_rules | `(tactic| walk_at "compareOp IsNot str ref") => `(tactic| (k_here; refine wpAny_isNot_other (by rfl) (by intro x; cases x) ?_))
theorem step_cond {z : Str} {inner touched : List Str} {a b r : Option Value} (hz : touched.contains z = false) (hs : (inner.all fun y => touched.contains y) = true) (h : b = r) : (if inner.contains z = true then a else b) = r := by
  rw [if_neg, h]
  intro hc
  have h1 := List.all_eq_true.mp hs z (by simpa using hc)
  rw [hz] at h1; cases h1
local macro_rules | `(tactic| walk_at "M off1") => `(tactic| (refine Mine.step_cond (by assumption) (by decide) ?_; walk_at "M off1"))
theorem jpNil {M : Model} {A : Around} {E : Value → Shared → Prop} {s : Shared} {env : Env} {out : Str} {Q : Value → Shared → Prop} (h : Q (.str out s.toks) { s with toks := s.toks + 1 }) (hsz : out.length ≤ sizeLine) : wpAny M A (joinParts out (evalEach [] env)) Q E s := joinParts_nil h hsz
local macro_rules | `(tactic| walk_at "joinParts") => `(tactic| (k_here; (with_reducible refine' Mine.jpNil ?_ ?z); (case z => with_reducible assumption)))
local macro_rules | `(tactic| walk_at "getMethod ref") => `(tactic| (k_here; k_dflt (refine Mine.gm_sub (by k_in) ?_)))
local macro_rules | `(tactic| walk_at "WhlIf") => `(tactic| first | refine WhlIf.yes (by with_reducible assumption) ?_ | refine WhlIf.no (by with_reducible assumption) ?_)
local macro_rules | `(tactic| k_ne) => `(tactic| ((try dsimp only); first | assumption | (refine Ne.symm ?_; assumption)))
local macro_rules | `(tactic| walk_at "truthy ref") => `(tactic| (k_here; refine wpAny_truthy_list (by is_list) (by assumption) ?_))
local macro_rules | `(tactic| walk_at "getAttr ref") => `(tactic| walk_at "M stop")
theorem item_at {l pre post : List Nat} {c P : Nat} (h : l = pre ++ c :: post) (hp : pre.length = P) : Txt.item (mkS l) (P : Int) = mkS [c] := by
  subst h hp
  rw [item_nat (by rw [List.length_append, List.length_cons]; lia)]
  simp
theorem flat_take {its : List It} {k : Nat} (h : k < its.length) : flat its = flat (its.take k) ++ (its[k].txt ++ flat (its.drop (k + 1))) := by
  have e : its = its.take k ++ its[k] :: its.drop (k + 1) := by rw [List.getElem_cons_drop, List.take_append_drop]
  conv => lhs; rw [e]
  unfold flat
  rw [List.flatMap_append, List.flatMap_cons]
theorem flat_succ {its : List It} {k : Nat} (h : k < its.length) : flat (its.take (k + 1)) = flat (its.take k) ++ its[k].txt := by
  rw [List.take_succ_eq_append_getElem h]; unfold flat; rw [List.flatMap_append]; simp
theorem flat_len (its : List It) : (flat its).length ≤ 4 * its.length := by
  induction its with
  | nil => exact Nat.le_refl _
  | cons x r ih =>
    have : (flat (x :: r)).length = x.txt.length + (flat r).length := by simp [flat]
    rw [this, List.length_cons]
    rw [Nat.mul_succ, Nat.add_comm]
    exact Nat.add_le_add ih (by cases x <;> simp [It.txt])
theorem paired_nil {α β : Type} {F : α → β → Prop} {xs : List α} (h : Paired F xs ([] : List β)) : xs = [] := by cases h; rfl
theorem paired_cons {α β : Type} {F : α → β → Prop} {xs : List α} {b : β} {ys : List β} (h : Paired F xs (b :: ys)) : ∃ a ws, xs = a :: ws ∧ F a b ∧ Paired F ws ys := by
  cases h with | cons h r => exact ⟨_, _, rfl, h, r⟩
theorem paired_last {α β : Type} {F : α → β → Prop} {xs : List α} {ys : List β} {b : β} (h : Paired F xs (ys ++ [b])) : ∃ ws a, xs = ws ++ [a] ∧ Paired F ws ys ∧ F a b := by
  induction ys generalizing xs with
  | nil =>
    obtain ⟨a, ws, rfl, h1, h2⟩ := paired_cons h
    rw [paired_nil h2]
    exact ⟨[], a, rfl, .nil, h1⟩
  | cons y ys ih =>
    obtain ⟨a, ws, rfl, h1, h2⟩ := paired_cons h
    obtain ⟨us, c, rfl, h3, h4⟩ := ih h2
    exact ⟨a :: us, c, rfl, .cons h1 h3, h4⟩
theorem calm_tail {x : It} {r : List It} (h : Calm (x :: r)) : Calm r := by
  cases x with
  | star => cases r with
    | nil => trivial
    | cons y r => cases y <;> first | exact h.elim | exact h
  | cls c => exact h
  | nl => exact h
theorem calm_at {its : List It} {k : Nat} (h : k + 1 < its.length) (hc : Calm its) (h1 : its[k + 1] = .star) : its[k] ≠ .star := by
  induction its generalizing k with
  | nil => exact absurd h (Nat.not_lt_zero _)
  | cons x r ih =>
    cases k with
    | zero => cases r with
      | nil => exact absurd (Nat.lt_of_succ_lt_succ h) (Nat.not_lt_zero _)
      | cons y r =>
        intro h2
        simp only [List.getElem_cons_succ, List.getElem_cons_zero] at h1 h2
        subst h1 h2
        exact hc.elim
    | succ k => exact ih (Nat.lt_of_succ_lt_succ h) (calm_tail hc) h1
section
variable {c : Nat} (hc : c = 10 ∨ c = 59 ∨ c = 44)
include hc
theorem sg_5 : (mkS [c] == Str.ofString "]") = false := by rcases hc with rfl | rfl | rfl <;> decide
theorem sg_7 : (mkS [c] != Str.ofString "]") = true := by rcases hc with rfl | rfl | rfl <;> decide
theorem sg_9 : (Builtin.Str.occurrences (mkS [33, c]) (Str.ofString "-") 0 (mkS [33, c]).length 1).isEmpty = true := by rcases hc with rfl | rfl | rfl <;> decide +kernel
theorem sg_2 : (mkS [33, c] == Str.ofString "!") = false := by rcases hc with rfl | rfl | rfl <;> decide
theorem sg_3 : (Txt.item (mkS [33, c]) 0 == Str.ofString "!") = true := by rcases hc with rfl | rfl | rfl <;> decide +kernel
theorem sg_j : Str.empty ++ Str.ofString "[" ++ (Str.ofString "^" ++ Txt.slice (mkS [33, c]) (some 1) none) ++ Str.ofString "]" = mkS [91, 94, c, 93] := by rcases hc with rfl | rfl | rfl <;> decide +kernel
theorem sg_l : (Str.ofString "[" ++ (Str.ofString "^" ++ Txt.slice (mkS [33, c]) (some 1) none)).length ≤ 16777216 ∧ (Str.ofString "[" ++ (Str.ofString "^" ++ Txt.slice (mkS [33, c]) (some 1) none) ++ Str.ofString "]").length ≤ 16777216 := by rcases hc with rfl | rfl | rfl <;> decide +kernel
end
theorem transIn {w : World} {p : Program} {loose : List Str} {mean : ExcName → Option Value} {mg mb : Str → Option Value} (its : List It) (sa : Addr) (t1 t3 : Tok) (tb : Option Addr)
    (dp un : Nat) (gd : Option (List Code)) (cn : Str) (cs : Scope) (a : Addr) (ccd : Value) (cl : List (Str × Addr)) (outer : List Env) (A₀ : Around) (base h₀ : Heap) (L : Addr) (m : Str → Option Value) (s : Shared) (Q E : Value → Shared → Prop)
    (hpt : its.length ≤ 100) (hok : ∀ i ∈ its, i.ok) (hcalm : Calm its) (N : News h₀ L s.heap [(225, tabObj (tabOf tb))]) (C : CodeHd base 229 225)
    (B : Below A₀ base outer h₀) (F : Fr h₀ L s.heap m) (X : (Mine.hd.heap_1 w.params).In h₀) (T : Top p loose mean mg mb h₀) (hk : cs.kind = .function) (hd : dp + 12 < recursionLimit) (hu : un + 300 < cLine)
    (hret : ∀ D ys c h' tk' tb', Paired (PcIs sa) ys its → (∀ b o, b ≠ 225 → s.heap.get? b = some o → h'.get? b = some o) → h'.get? 225 = some (tabObj (tabOf tb')) → s.heap.get? D = none → h'.get? D = some (PySem.W.listOf (List.toArray ys) c) → Q (.ref D) { s with heap := h', toks := tk' }) :
    wpAny (model PySem.Challenge.rw_ik0127_01.row.prog w) (ktrTop dp un gd cn cs L a ccd cl outer) (call (.ref 230) [.str (mkS (flat its)) t1, .ref sa, .str (Str.ofString ".") t3]) Q E s := by
  revert X T; k_fill; intro X T
  refine wpAny_call ?_
  k_dflt (refine' Mine.enterT ?kN ?k1 ?k2 ?k3 ?k5 ?kA ?kF ?kK ?k6 ?k7 ?k8 ?k9 ?kB ?_ ?c2 ?c3 ?c4 ?c5; (case kA | kF => exact rfl); (case kK | kN => assumption); (case k1 | k2 | k3 | k5 => k_asm); (case k6 | k7 => k_is); (case k8 => ktr_room); (case k9 => exact BindsTo.of_eq rfl); (case c5 => decide); (case kB => exact locs rfl); (case c2 | c3 | c4 => exact rfl); k_whole; intro _ _ _ _ _ _ _ _ _ _; (try dsimp only); (try k_fold))
  rename_i L' h' g' kg' F' N' B' X' T' kn'
  have hptl : (mkS (flat its)).length ≤ 1000 := by rw [mkS_len]; exact Nat.le_trans (flat_len its) (Nat.le_trans (Nat.mul_le_mul_left 4 hpt) (by decide))
  k_steps
  refine Mine.getAttr_appendK (by k_asm) (by k_asm) (by k_mem) ?_
  intro _ _ _ _ _ lC
  (try simp only [List.forall_mem_cons, List.not_mem_nil, false_implies, implies_true, and_true] at lC)
  k_steps
  rename_i D hA lA hB tkA b hC tkC hE tkE U hF lF hG hH tkH hI tkI FF NN
  have ne3 : D ≠ b := lC.1
  apply Mine.whileInv (h₀ := g') (rest := [(b, boundAp D)]) (fun c : List Value × Nat × Nat × Tok × Option Addr => [(D, PySem.W.listOf (List.toArray c.1) c.2.1), (225, tabObj (tabOf c.2.2.2.2))]) (fun c => [(Str.ofString "i", .int (flat (its.take c.2.2.1)).length c.2.2.2.1)]) [Str.ofString "i", Str.ofString "c", Str.ofString "j", Str.ofString "stuff"]
    (fun c => Paired (PcIs sa) c.1 (its.take c.2.2.1) ∧ c.2.2.1 ≤ its.length) (fun c => its.length - c.2.2.1) ⟨[], 0, 0, _, tb⟩
  ((case hE => passes_own); (case F => k_asm); (case hps => walk_at "M ps"))
  case N => exact Mine.fm3 (NN _ (by k_mem)) (NN _ (by k_mem)) (NN _ (by k_mem))
  case hI => exact ⟨.nil, Nat.zero_le _⟩
  case turn =>
    refine Mine.all_5 ?_; intro vs cc k ti tb u h tk hJ0 F N0
    obtain ⟨hP, hk⟩ := hJ0
    have N : News g' _ h [(D, PySem.W.listOf (List.toArray vs) cc), (b, boundAp D), (225, tabObj (tabOf tb))] := Mine.fm3 (N0 _ (by k_mem)) (N0 _ (by k_mem)) (N0 _ (by k_mem))
    clear N0
    have ne1 : D ≠ 225 := news_ne N (.head _) (.tail _ (.tail _ (.head _))) (by intro e; cases e)
    have ne2 : b ≠ 225 := news_ne N (.tail _ (.head _)) (.tail _ (.tail _ (.head _))) (by intro e; cases e)
    dsimp only [loopM, kstB] at F hP hk
    generalize hPn : (flat (its.take k)).length = P at *
    by_cases hkl : k < its.length
    case neg =>
      have hke : its.take k = its := List.take_of_length_le (by lia)
      rw [hke] at hPn hP
      have hPN : P = (mkS (flat its)).length := by rw [mkS_len, hPn]
      have hPi : (P : Int) = ((mkS (flat its)).length : Int) := by rw [← hPN]
      k_steps
      refine WhlIf.no (by simp [hPN]) ?_
      k_steps
      · refine hret _ _ _ _ _ tb hP (fun b' o' hb' e' => (‹Fr g' _ h _› : Fr g' _ h _).keep b' o' (kg' b' o' e' hb')) (N _ (.tail _ (.tail _ (.head _)))).1 ?_ (N _ (.head _)).1
        cases e9 : s.heap.get? D with
        | none => rfl
        | some o9 => have := kg' D o9 e9 ne1; rw [(N _ (.head _)).2.2] at this; cases this
    have hfl := flat_take hkl
    have hfs := flat_succ hkl
    have hPl : P < (mkS (flat its)).length := by
      have h1 : 0 < its[k].txt.length := by cases its[k] <;> simp [It.txt]
      rw [mkS_len, hfl, List.length_append, List.length_append, hPn]
      exact Nat.lt_add_of_pos_right (Nat.lt_of_lt_of_le h1 (Nat.le_add_right _ _))
    k_steps
    refine WhlIf.yes (by simpa using hPl) ?_
    have hv9 : (List.toArray vs).size ≤ 100 := Nat.le_trans (Nat.le_of_eq hP.length) (Nat.le_trans (List.length_take_le' k its) hpt)
    have hsz9 : ((List.toArray vs).size : Int) < 2 ^ 63 := Int.lt_of_le_of_lt (Int.ofNat_le.mpr hv9) (by decide)
    have hszl : (List.toArray vs).size ≤ sizeLine := Nat.le_trans hv9 (by rw [sizeLine_eq]; decide)
    cases hit : its[k] with
    | star =>
      rw [hit] at hfl hfs
      have e1 := item_at (post := flat (its.drop (k + 1))) hfl hPn
      have f1 : (Txt.item (mkS (flat its)) (P : Int) == Str.ofString "*") = true := by rw [e1]; decide
      have hi : ((P : Int) + 1) = ((flat (its.take (k + 1))).length : Int) := by rw [hfs, List.length_append, hPn]; simp [It.txt]
      cases k with
      | zero =>
        have e0 : vs = [] := by have := hP.length; simpa using this
        subst e0
        k_steps
        rename Fr _ _ _ _ => FF
        rename News _ _ _ _ => NN
        dsimp +zetaDelta only at FF
        rw [hi] at FF
        rw [List.push_toArray] at NN
        apply Mine.turnEnd (⟨[] ++ [.ref sa], cc + 1, 0 + 1, ?ta1, tb⟩)
        ((case fr | nw => k_asm); (case own' | led => walk_at "M sub"); (case hps => walk_at "M ps"); (case off => walk_at "M off"))
        refine ⟨⟨?_, by dsimp only; lia⟩, by dsimp only; lia⟩
        rw [List.take_succ_eq_append_getElem hkl, hit]
        exact hP.snoc rfl
      | succ k =>
        have hne := calm_at hkl hcalm hit
        have hP' := hP
        rw [List.take_succ_eq_append_getElem (show k < its.length by lia)] at hP'
        obtain ⟨ws, v, rfl, hPw, hv⟩ := paired_last hP'
        obtain ⟨x, t, rfl⟩ : ∃ x t, v = .str x t := by
          cases hi2 : its[k] with
          | star => exact absurd hi2 hne
          | cls c => rw [hi2] at hv; obtain ⟨t, rfl⟩ := hv; exact ⟨_, _, rfl⟩
          | nl => rw [hi2] at hv; obtain ⟨t, rfl⟩ := hv; exact ⟨_, _, rfl⟩
        k_steps
        · exfalso
          rename List.isEmpty _ = true => hb
          simp at hb
        · rename Fr _ _ _ _ => FF
          rename News _ _ _ _ => NN
          dsimp +zetaDelta only at FF
          rw [hi] at FF
          rw [List.push_toArray] at NN
          apply Mine.turnEnd (⟨(ws ++ [Value.str x t]) ++ [.ref sa], cc + 1, (k + 1) + 1, ?ta2, tb⟩)
          ((case fr | nw => k_asm); (case own' | led => walk_at "M sub"); (case hps => walk_at "M ps"); (case off => walk_at "M off"))
          refine ⟨⟨?_, by dsimp only; lia⟩, by dsimp only; lia⟩
          rw [List.take_succ_eq_append_getElem hkl, hit]
          exact hP.snoc rfl
    | cls c =>
      rw [hit] at hfl hfs
      have hc : c = 10 ∨ c = 59 ∨ c = 44 := by have := hok _ (List.getElem_mem hkl); rw [hit] at this; exact this
      have e1 := item_at (post := 33 :: c :: 93 :: flat (its.drop (k + 1))) hfl hPn
      have e2 : Txt.item (mkS (flat its)) ((P : Int) + 1) = mkS [33] := item_at (pre := flat (its.take k) ++ [91]) (post := c :: 93 :: flat (its.drop (k + 1))) (P := P + 1) (by rw [hfl]; simp [It.txt]) (by simp [hPn])
      have e3 : Txt.item (mkS (flat its)) ((P : Int) + 1 + 1) = mkS [c] := item_at (pre := flat (its.take k) ++ [91, 33]) (post := 93 :: flat (its.drop (k + 1))) (P := P + 1 + 1) (by rw [hfl]; simp [It.txt]) (by simp [hPn])
      have e4 : Txt.item (mkS (flat its)) ((P : Int) + 1 + 1 + 1) = mkS [93] := item_at (pre := flat (its.take k) ++ [91, 33, c]) (post := flat (its.drop (k + 1))) (P := P + 1 + 1 + 1) (by rw [hfl]; simp [It.txt]) (by simp [hPn])
      have hPl4 : P + 4 ≤ (mkS (flat its)).length := by rw [mkS_len, hfl, List.length_append, hPn]; simp [It.txt]
      have f1 : (Txt.item (mkS (flat its)) (P : Int) == Str.ofString "*") = false := by rw [e1]; decide
      have f2 : (Txt.item (mkS (flat its)) (P : Int) == Str.ofString "?") = false := by rw [e1]; decide
      have f3 : (Txt.item (mkS (flat its)) (P : Int) == Str.ofString "[") = true := by rw [e1]; decide
      have f4 : (Txt.item (mkS (flat its)) ((P : Int) + 1) == Str.ofString "!") = true := by rw [e2]; decide
      have f5 : (Txt.item (mkS (flat its)) ((P : Int) + 1 + 1) == Str.ofString "]") = false := by rw [e3]; exact sg_5 hc
      have f6 : (Txt.item (mkS (flat its)) ((P : Int) + 1 + 1 + 1) == Str.ofString "]") = true := by rw [e4]; decide
      have f7 : (Txt.item (mkS (flat its)) ((P : Int) + 1 + 1) != Str.ofString "]") = true := by rw [e3]; exact sg_7 hc
      have f8 : (Txt.item (mkS (flat its)) ((P : Int) + 1 + 1 + 1) != Str.ofString "]") = false := by rw [e4]; decide
      have hS : Txt.slice (mkS (flat its)) (some ((P : Int) + 1)) (some ((P : Int) + 1 + 1 + 1)) = mkS [33, c] := by
        have h1 := slice_ab (l := flat its) (a := P + 1) (b := P + 1 + 1 + 1) (Nat.le_add_right (P + 1) 2) (by rw [mkS_len] at hPl4; lia)
        have h2 : ((flat its).drop (P + 1)).take (P + 1 + 1 + 1 - (P + 1)) = [33, c] := by
          have e : flat its = (flat (its.take k) ++ [91]) ++ (33 :: c :: 93 :: flat (its.drop (k + 1))) := by rw [hfl]; simp [It.txt]
          have l1 : (flat (its.take k) ++ [91]).length = P + 1 := by simp [hPn]
          rw [e, show P + 1 + 1 + 1 - (P + 1) = 2 from Nat.add_sub_cancel_left (P + 1) 2, ← l1, List.drop_left]
          rfl
        rw [h2] at h1
        exact h1
      have f9 : (Builtin.Str.occurrences (Txt.slice (mkS (flat its)) (some ((P : Int) + 1)) (some ((P : Int) + 1 + 1 + 1))) (Str.ofString "-") 0 (Txt.slice (mkS (flat its)) (some ((P : Int) + 1)) (some ((P : Int) + 1 + 1 + 1))).length 1).isEmpty = true := by
        rw [hS]; exact sg_9 hc
      have hi : ((P : Int) + 4) = ((flat (its.take (k + 1))).length : Int) := by rw [hfs, List.length_append, hPn]; simp [It.txt]
      k_steps
      apply Mine.whileInv (h₀ := g') (rest := [(D, PySem.W.listOf (List.toArray vs) cc), (b, boundAp D), (225, tabObj (tabOf tb))]) (fun c : Int × Tok => []) (fun c => [(Str.ofString "j", .int c.1 c.2)]) [Str.ofString "j"]
        (fun c => c.1 = (P : Int) + 1 + 1 ∨ c.1 = (P : Int) + 1 + 1 + 1) (fun c => ((P : Int) + 4 - c.1).toNat) ⟨(P : Int) + 1 + 1, _⟩
      ((case hE => passes_own); (case F => k_asm); (case hps => walk_at "M ps"))
      case N => k_asm
      case hI => exact .inl rfl
      case turn =>
        refine Mine.all_2 ?_; rintro j tj u2 h2 tk2 hj F2 N2
        simp only [List.cons_append, List.nil_append, List.append_nil] at N2
        dsimp only [loopM, kstB] at F2 hj
        rcases hj with rfl | rfl
        · k_steps
          rename Fr _ _ _ _ => FF
          rename News _ _ _ _ => NN
          apply Mine.turnEnd (⟨(P : Int) + 1 + 1 + 1, ?ta4⟩)
          ((case fr | nw => k_asm); (case own' | led => walk_at "M sub"); (case hps => walk_at "M ps"); (case off => walk_at "M off"))
          exact ⟨.inr rfl, by dsimp only; lia⟩
        · k_steps
          rename Fr _ _ _ _ => FF
          rename News _ _ _ _ => NN
          dsimp +zetaDelta only at FF
          rw [hS] at FF ⊢
          refine Mine.replC hc _ _ _ ?_
          intro t5 tk5 h5 hk5
          replace FF := FF.keeps hk5
          replace NN := NN.grown hk5
          k_steps
          apply Mine.lamT (D := D) (b := b) (tb := tb) (P := 225)
          case hline => rfl
          case hcol => rfl
          case hdef => exact rfl
          case F => k_asm
          case N => k_asm
          case hD => assumption
          case hb => assumption
          case T => k_asm
          case C => kn_code
          case hcd => exact rfl
          case hcl => exact rfl
          case h =>
            intro f fd c6 h6 tk6 F6 N6 l6
            obtain ⟨l7, l8⟩ := l6
            k_steps
            refine Mine.subC hc _ f fd #[] (by k_in) (N6 _ (.head _)).1 ?_
            intro t7 tk7 h7 hk7
            replace F6 := F6.keeps hk7
            replace N6 := N6.grown hk7
            have hl2 : (mkS [33, c]).length = 2 := by rw [mkS_len]; rfl
            have g1 : ¬ (((mkS [33, c]).length : Nat) : Int) = 0 := by rw [hl2]; decide
            have g2 : (mkS [33, c] == Str.ofString "!") = false := sg_2 hc
            have g3 : (Txt.item (mkS [33, c]) 0 == Str.ofString "!") = true := sg_3 hc
            have hJ : Str.empty ++ Str.ofString "[" ++ (Str.ofString "^" ++ Txt.slice (mkS [33, c]) (some 1) none) ++ Str.ofString "]" = mkS [91, 94, c, 93] := sg_j hc
            have hl3 := (sg_l hc).1
            have hl4 := (sg_l hc).2
            have hJl : (Str.empty ++ Str.ofString "[" ++ (Str.ofString "^" ++ Txt.slice (mkS [33, c]) (some 1) none) ++ Str.ofString "]").length ≤ sizeLine := by rw [hJ, mkS_len, sizeLine_eq]; simp
            iterate 20 (first | (k_unfold; (try dsimp only)) | (k_end; wrow_close) | walk_at "M w" | (dsimp only; walk_at "M w"))
            rotate_left
            · exfalso
              rename ((_ : Nat) : Int) = 0 => hb
              rw [hl2] at hb
              exact absurd hb (by decide)
            k_steps
            rename Fr _ _ _ _ => FF
            rename News _ _ _ _ => NN
            have hi3 : (P : Int) + 1 + 1 + 1 + 1 = ((flat (its.take (k + 1))).length : Int) := by rw [← hi]; lia
            dsimp +zetaDelta only at FF
            rw [hi3] at FF
            rw [List.push_toArray, hJ] at NN
            apply Mine.turnEnd (⟨vs ++ [.str (mkS [91, 94, c, 93]) ?tq9], cc + 1, k + 1, ?tq8, some c6⟩)
            ((case fr | nw => k_asm); (case own' | led => walk_at "M sub"); (case hps => walk_at "M ps"); (case off => walk_at "M off"))
            refine ⟨⟨?_, by dsimp only; lia⟩, by dsimp only; lia⟩
            rw [List.take_succ_eq_append_getElem hkl, hit]
            exact hP.snoc ⟨_, rfl⟩
    | nl =>
      rw [hit] at hfl hfs
      have e1 := item_at (post := flat (its.drop (k + 1))) hfl hPn
      have f1 : (Txt.item (mkS (flat its)) (P : Int) == Str.ofString "*") = false := by rw [e1]; decide
      have f2 : (Txt.item (mkS (flat its)) (P : Int) == Str.ofString "?") = false := by rw [e1]; decide
      have f3 : (Txt.item (mkS (flat its)) (P : Int) == Str.ofString "[") = false := by rw [e1]; decide
      have hi : ((P : Int) + 1) = ((flat (its.take (k + 1))).length : Int) := by rw [hfs, List.length_append, hPn]; simp [It.txt]
      k_steps
      have e10 : Txt.item (mkS (flat its)) (P : Int) = Str.ofString "\n" := e1.trans (by decide)
      rw [e10]
      apply Mine.escapeC
      ((case B | F | X | T => k_asm); (case hk => with_unfolding_all rfl); (case hd | hu => first | omega | decide | (simp only [ktrTop]; omega)))
      case hret =>
        intro t9 h9 tk9 hk9
        rename Fr _ _ _ _ => FF
        rename News _ _ _ _ => NN
        replace FF := FF.keeps hk9
        replace NN := NN.grown hk9
        k_steps
        rename Fr _ _ _ _ => FF
        rename News _ _ _ _ => NN
        dsimp +zetaDelta only at FF
        rw [hi] at FF
        rw [List.push_toArray] at NN
        apply Mine.turnEnd (⟨vs ++ [.str (mkS [92, 10]) t9], cc + 1, k + 1, ?ta3, tb⟩)
        ((case fr | nw => k_asm); (case own' | led => walk_at "M sub"); (case hps => walk_at "M ps"); (case off => walk_at "M off"))
        refine ⟨⟨?_, by dsimp only; lia⟩, by dsimp only; lia⟩
        rw [List.take_succ_eq_append_getElem hkl, hit]
        exact hP.snoc ⟨_, rfl⟩
end
section
local macro_rules | `(tactic| walk_at "callWith ref") => `(tactic| (k_here; (with_reducible show wpAny _ _ (callWith _ (Value.ref _) _ (backTo _ (starEach (_ :: _) _)) []) _ _ _); k_dflt (refine' Mine.callWith_b ?k1 ?k2 ?_; (case k1 => k_asm); (case k2 => k_mem); k_whole)))
local macro_rules | `(tactic| walk_at "keeperOf ref") => `(tactic| (k_here; k_dflt (refine' Mine.keeper_bound ?k1 ?k2 ?_; (case k1 => k_asm); (case k2 => k_mem); k_whole); (try dsimp only)))
local macro_rules | `(tactic| walk_at "call ref") => `(tactic| (k_here; k_dflt (refine' Mine.call_boundAppend ?k0 ?k1 ?k2 ?k3 ?_ ?z; (case k1 | k2 => k_asm); (case k0 => k_mem); (case k3 => k_upd); (case z => first | with_reducible assumption | size_fits); k_whole); intro _ _ _))
local macro_rules | `(tactic| walk_at "WhlIf") => `(tactic| first | refine WhlIf.yes (by with_reducible assumption) ?_ | refine WhlIf.no (by with_reducible assumption) ?_)
local macro_rules | `(tactic| k_ne) => `(tactic| ((try dsimp only); first | assumption | (refine Ne.symm ?_; assumption)))
local macro_rules | `(tactic| walk_at "truthy ref") => `(tactic| (k_here; refine wpAny_truthy_list (by is_list) (by assumption) ?_))
local macro_rules | `(tactic| walk_at "getAttr ref") => `(tactic| walk_at "M stop")
local macro_rules | `(tactic| walk_at "compareOp IsNot ref ref") => `(tactic| (k_here; refine wpAny_isNot_ref_self ?_))
local macro_rules | `(tactic| walk_at "compareOp Is ref ref") => `(tactic| (k_here; refine wpAny_is_ref_self ?_))
local macro_rules | `(tactic| walk_at "compareOp IsNot str ref") => `(tactic| (k_here; refine wpAny_isNot_other (by rfl) (by intro x; cases x) ?_))
local macro_rules | `(tactic| walk_at "call builtin:str.join") => `(tactic| walk_at "M stop")
/-- what stands at a place of a list -/
noncomputable def AtV (vs : List Value) (k : Int) (v : Value) : Prop := 0 ≤ k ∧ k < 2 ^ 63 ∧ vs[k.toNat]? = some v
theorem AtV.of {vs : List Value} {k : Int} {v : Value} (j : Nat) (hk : k = (j : Int)) (hb : j < 1000000) (hx : vs[j]? = some v) : AtV vs k v := by
  subst hk
  exact ⟨az j, Int.lt_trans (Int.ofNat_lt.mpr hb) (by decide), hx⟩
theorem item_v {prog : Program} {w : World} {A : Around} {E : Value → Shared → Prop} {s : Shared} {value slice : Expr} {D : Addr} {vs : List Value} {k : Int} {u : Tok} {v : Value} {Q : Value → Shared → Prop} (hl : s.heap.IsList D vs.toArray) (hx : AtV vs k v) (h : Q v s)
    (hs : subscripted slice false (.ref D) (.int k u) = operate [.ref D, .int k u] (getItem (.ref D) (.int k u)) := by with_unfolding_all rfl) :
    wpAny (model prog w) A (subscriptTail value slice (.ref D) (.int k u)) Q E s :=
  tail_any hl.typeIs slot_list_getitem.lookup (getItem_listL hl hx.1 hx.2.1 hx.2.2 h) hs
local macro_rules | `(tactic| walk_at "subscriptTail Name Name ref int") => `(tactic| (k_here; (with_unfolding_all refine' Mine.item_v ?k1 ?k3 ?_ ?k2; (case k2 => with_unfolding_all rfl); (case k1 => is_list); (case k3 => with_reducible assumption); k_whole)))
local macro_rules | `(tactic| walk_at "joinParts") => `(tactic| (k_here; (with_reducible refine' Mine.jpNil ?_ ?z); (case z => with_reducible assumption)))
local macro_rules | `(tactic| walk_at "M off1") => `(tactic| (refine Mine.step_cond (by assumption) (by decide) ?_; walk_at "M off1"))
/-- the text that _join_translated_parts gives of a star, texts and a star -/
noncomputable def joined (xs : List Str) : Str := mkS ([40, 63, 115, 58, 40, 63, 62, 46, 42, 63] ++ (xs.flatMap (·.cps.toList) ++ [41, 46, 42, 41, 92, 90]))
theorem sjoin_empty : ∀ xs : List Str, Str.join (Str.ofString "") xs = mkS (xs.flatMap (·.cps.toList))
  | [] => by decide
  | [x] => by
    show x = _
    simp [mkS_cps]
  | x :: y :: r => by
    show x ++ Str.ofString "" ++ Str.join (Str.ofString "") (y :: r) = _
    rw [sjoin_empty (y :: r), show Str.ofString "" = mkS [] by decide, ← mkS_cps x, mkS_app, mkS_app]
    simp [mkS_toList]
theorem join_empty (xs : List Str) : Txt.join (Str.ofString "") xs = mkS (xs.flatMap (·.cps.toList)) := by
  unfold Txt.join
  rw [StrLaws.glued_eq_join, sjoin_empty]
theorem sum_len : ∀ {xs : List Str}, (∀ x ∈ xs, x.length ≤ 4) → (xs.map (·.length)).sum ≤ 4 * xs.length
  | [], _ => Nat.le_refl _
  | x :: r, h => by
    have h1 := h x (.head _)
    have h2 := sum_len (xs := r) fun y hy => h y (.tail _ hy)
    simp only [List.map_cons, List.sum_cons, List.length_cons]
    rw [Nat.mul_succ, Nat.add_comm]
    exact Nat.add_le_add h2 h1
theorem flat_cps_len : ∀ xs : List Str, (xs.flatMap (·.cps.toList)).length = (xs.map (·.length)).sum
  | [] => rfl
  | x :: r => by
    rw [List.flatMap_cons, List.length_append, flat_cps_len r, List.map_cons, List.sum_cons]
    rfl
theorem app_fit2 {a b : Str} {n : Nat} (ha : a.length ≤ 10) (hb : b.length ≤ n) (hn : n ≤ 500) : (a ++ b).length ≤ 16777216 := by
  rw [Str.length_append]; exact Nat.le_trans (Nat.add_le_add ha (Nat.le_trans hb hn)) (by decide)
theorem app_fit {a b c : Str} {n : Nat} (ha : a.length ≤ 10) (hb : b.length ≤ n) (hn : n ≤ 500) (hc : c.length ≤ 10) : (a ++ b ++ c).length ≤ 16777216 := by
  rw [Str.length_append, Str.length_append]; exact Nat.le_trans (Nat.add_le_add (Nat.add_le_add ha (Nat.le_trans hb hn)) hc) (by decide)
theorem toNat_down (n : Nat) : ((n : Int) + 2 - ((n : Int) + 1)).toNat < ((n : Int) + 2 - 0).toNat :=
  Nat.lt_of_le_of_lt (Nat.le_of_eq (Int.toNat_sub (n + 2) (n + 1))) (by rw [Int.sub_zero]; exact Nat.sub_lt (Nat.succ_pos _) (Nat.succ_pos _))
theorem joinC {w : World} {p : Program} {loose : List Str} {mean : ExcName → Option Value} {mg mb : Str → Option Value} (I sa : Addr) (ms : List Value) (xs : List Str) (ci : Nat)
    (dp un : Nat) (gd : Option (List Code)) (cn : Str) (cs : Scope) (a : Addr) (ccd : Value) (cl : List (Str × Addr)) (outer : List Env) (A₀ : Around) (base h₀ : Heap) (L : Addr) (m : Str → Option Value) (s : Shared) (Q E : Value → Shared → Prop)
    (hI : s.heap.get? I = some (PySem.W.listOf (List.toArray (.ref sa :: (ms ++ [.ref sa]))) ci)) (hxs : StrsAre ms xs) (hml : ms.length ≤ 100) (hm0 : 0 < ms.length) (hx4 : ∀ x ∈ xs, x.length ≤ 4)
    (B : Below A₀ base outer h₀) (F : Fr h₀ L s.heap m) (X : (Mine.hd.heap_1 w.params).In h₀) (T : Top p loose mean mg mb h₀) (hk : cs.kind = .function) (hd : dp + 12 < recursionLimit) (hu : un + 300 < cLine)
    (hret : ∀ t h' tk', (∀ b o, s.heap.get? b = some o → h'.get? b = some o) → Q (.str (joined xs) t) { s with heap := h', toks := tk' }) :
    wpAny (model PySem.Challenge.rw_ik0127_01.row.prog w) (ktrTop dp un gd cn cs L a ccd cl outer) (call (.ref 237) [.ref I, .ref sa]) Q E s := by
  revert X T; k_fill; intro X T
  refine wpAny_call ?_
  have hIl : s.heap.IsList I (List.toArray (.ref sa :: (ms ++ [.ref sa]))) := ⟨_, hI, rfl, ⟨_, rfl⟩⟩
  have hI1 : ((List.toArray (Value.ref sa :: (ms ++ [Value.ref sa]))).size : Int) < 2 ^ 63 := by simp; lia
  have a0 : AtV (.ref sa :: (ms ++ [.ref sa])) 0 (.ref sa) := .of 0 rfl (by decide) rfl
  have hjl : (mkS (xs.flatMap (·.cps.toList))).length ≤ 400 := by rw [mkS_len, flat_cps_len]; have := sum_len hx4; have := hxs.length; lia
  have hJ : Str.empty ++ Str.ofString "(?>.*?" ++ mkS (xs.flatMap (·.cps.toList)) ++ Str.ofString ")" = mkS ([40, 63, 62, 46, 42, 63] ++ (xs.flatMap (·.cps.toList) ++ [41])) := by
    rw [show Str.empty ++ Str.ofString "(?>.*?" = mkS [40, 63, 62, 46, 42, 63] by decide, show Str.ofString ")" = mkS [41] by decide, mkS_app, mkS_app, List.append_assoc]
  have hJl : (Str.empty ++ Str.ofString "(?>.*?" ++ mkS (xs.flatMap (·.cps.toList)) ++ Str.ofString ")").length ≤ sizeLine := by
    rw [mkS_len] at hjl
    rw [hJ, mkS_len, sizeLine_eq]; simp only [List.length_append, List.length_cons, List.length_nil]; lia
  have q1 := app_fit2 (a := Str.ofString "(?>.*?") (by decide) hjl (by decide)
  have q2 := app_fit (a := Str.ofString "(?>.*?") (c := Str.ofString ")") (by decide) hjl (by decide) (by decide)
  have hN : ((List.toArray (Value.ref sa :: (ms ++ [Value.ref sa]))).size : Int) = (ms.length : Int) + 2 := by simp; lia
  k_dflt (refine' Mine.enterP ?k1 ?k2 ?k3 ?k5 ?kA ?kF ?kK ?k6 ?k7 ?k8 ?k9 ?kB ?_ ?c2 ?c3 ?c4 ?c5; (case kA | kF => exact rfl); (case kK => assumption); (case k1 | k2 | k3 | k5 => k_asm); (case k6 | k7 => k_is); (case k8 => ktr_room); (case k9 => exact BindsTo.of_eq rfl); (case c5 => decide); (case kB => exact locs rfl); (case c2 | c3 | c4 => exact rfl); k_whole; intro _ _ _ _ _ _ _; (try dsimp only); (try k_fold))
  k_steps
  refine Mine.getAttr_appendK (by k_asm) (by k_asm) (by k_mem) ?_
  intro _ _ _ _ _ lC
  (try simp only [List.forall_mem_cons, List.not_mem_nil, false_implies, implies_true, and_true] at lC)
  k_steps
  rename_i D hA lA hB tkA b hC tkC hE tkE U hF lF hG hH tkH hZ tkZ FF NN
  dsimp +zetaDelta only at FF
  rw [hN] at FF
  apply Mine.whileInv (h₀ := s.heap) (rest := [(D, PySem.W.listOf (List.toArray []) 0), (b, boundAp D)]) (fun _ : Unit => []) (fun _ => []) [] (fun _ => True) (fun _ => 0) ()
  ((case hE => passes_own); (case F => k_asm); (case hps => walk_at "M ps"))
  case N => exact Mine.fm2 (NN _ (by k_mem)) (NN _ (by k_mem))
  case hI => trivial
  case turn =>
    rintro _ u h tk - F1 N1
    simp only [List.cons_append, List.nil_append, List.append_nil] at N1
    dsimp only [loopM, kstB] at F1
    clear FF NN
    k_steps
    obtain ⟨m0, ms', hms⟩ : ∃ m0 ms', ms = m0 :: ms' := by cases ms with
      | nil => simp at hm0
      | cons a r => exact ⟨a, r, rfl⟩
    have a1 : ∀ (j : Nat) (v : Value), ms[j]? = some v → AtV (.ref sa :: (ms ++ [.ref sa])) ((j : Int) + 1) v := fun j v hj => by
      have hjl : j < ms.length := (List.getElem?_eq_some_iff.mp hj).1
      exact .of (j + 1) rfl (Nat.lt_of_le_of_lt (Nat.le_trans hjl hml) (by decide)) (by rw [List.getElem?_cons_succ, List.getElem?_append_left hjl]; exact hj)
    have a2 : AtV (.ref sa :: (ms ++ [.ref sa])) ((ms.length : Int) + 1) (.ref sa) := .of (ms.length + 1) rfl (Nat.lt_of_le_of_lt (Nat.succ_le_succ hml) (by decide)) (by rw [List.getElem?_cons_succ, List.getElem?_append_right (Nat.le_refl _), Nat.sub_self]; rfl)
    apply Mine.whileInv (h₀ := s.heap) (rest := [(b, boundAp D)]) (fun c : List Value × Nat × Int × Tok => [(D, PySem.W.listOf (List.toArray c.1) c.2.1)]) (fun c => [(Str.ofString "i", .int c.2.2.1 c.2.2.2)]) [Str.ofString "i", Str.ofString "fixed"]
      (fun c => (c.1 = [] ∧ c.2.2.1 = 0) ∨ (∃ t, c.1 = [.str (mkS ([40, 63, 62, 46, 42, 63] ++ (xs.flatMap (·.cps.toList) ++ [41]))) t] ∧ c.2.2.1 = (ms.length : Int) + 1)) (fun c => ((ms.length : Int) + 2 - c.2.2.1).toNat) ⟨[], 0, 0, _⟩
    ((case hE => passes_own); (case F => k_asm); (case hps => walk_at "M ps"))
    case N => k_asm
    case hI => exact .inl ⟨rfl, rfl⟩
    case turn =>
      refine Mine.all_4 ?_; rintro rs cc iv ti u2 h2 tk2 hinv F2 N2
      simp only [List.cons_append, List.nil_append, List.append_nil] at N2
      dsimp only [loopM, kstB] at F2 hinv
      clear F1 N1
      rcases hinv with ⟨rfl, rfl⟩ | ⟨tr, rfl, rfl⟩
      · have b1 : ((0 : Int) + 1 == (ms.length : Int) + 2) = false := by rw [beq_eq_false_iff_ne]; lia
        obtain ⟨x0, t0, rfl⟩ : ∃ x0 t0, m0 = .str x0 t0 := by
          obtain ⟨x, t, e, _⟩ := strsAre_is hxs (v := m0) (by rw [hms]; exact .head _)
          exact ⟨x, t, e⟩
        have a3 : AtV (.ref sa :: (ms ++ [.ref sa])) ((0 : Int) + 1) (.str x0 t0) := a1 0 _ (by rw [hms]; rfl)
        k_steps
        refine WhlIf.yes (decide_eq_true (by lia)) ?_
        k_steps
        rename_i Fx hK lK hM tkM FF NN
        apply Mine.whileInv (h₀ := s.heap) (rest := [(D, PySem.W.listOf (List.toArray []) cc), (b, boundAp D)]) (fun c : Nat × Nat × Tok => [(Fx, PySem.W.listOf (List.toArray (ms.take c.1)) c.2.1)]) (fun c => [(Str.ofString "i", .int ((c.1 : Int) + 1) c.2.2)]) [Str.ofString "i"]
          (fun c => c.1 ≤ ms.length) (fun c => ms.length - c.1) ⟨0, 0, _⟩
        ((case hE => passes_own); (case F => k_asm); (case hps => walk_at "M ps"))
        case N => exact NN
        case hI => exact Nat.zero_le _
        case turn =>
          refine Mine.all_3 ?_; rintro j c3 tj u3 h3 tk3 hj F3 N3
          simp only [List.cons_append, List.nil_append, List.append_nil] at N3
          dsimp only [loopM, kstB] at F3 hj
          clear FF NN
          have hFl : (List.toArray (ms.take j)).size ≤ sizeLine := Nat.le_trans (List.length_take_le' j ms) (Nat.le_trans hml (by rw [sizeLine_eq]; decide))
          by_cases hjl : j < ms.length
          · obtain ⟨xj, tj2, hxj, _⟩ := strsAre_is hxs (List.getElem_mem hjl)
            have a4 : AtV (.ref sa :: (ms ++ [.ref sa])) ((j : Int) + 1) (.str xj tj2) := a1 j _ (by rw [List.getElem?_eq_getElem hjl, hxj])
            k_steps
            rename Fr _ _ _ _ => FF
            rename News _ _ _ _ => NN
            have hi : (j : Int) + 1 + 1 = ((j + 1 : Nat) : Int) + 1 := rfl
            dsimp +zetaDelta only at FF
            rw [hi] at FF
            rw [List.push_toArray, ← hxj, ← List.take_succ_eq_append_getElem hjl] at NN
            apply Mine.turnEnd (⟨j + 1, c3 + 1, ?tb1⟩)
            ((case fr | nw => k_asm); (case own' | led => walk_at "M sub"); (case hps => walk_at "M ps"); (case off => walk_at "M off"))
            exact ⟨hjl, by dsimp only; lia⟩
          · have hje : j = ms.length := by lia
            subst hje
            rw [List.take_length] at N3 hFl
            have b2 : ((ms.length : Int) + 1 == (ms.length : Int) + 2) = false := by rw [beq_eq_false_iff_ne]; lia
            k_steps
            refine join_list (ys := xs) (News.isList N3 (.head _)) hxs (by have := sum_len hx4; have := hxs.length; rw [show (Str.ofString "").length = 0 by decide, Nat.mul_zero, Nat.add_zero]; lia) fun t5 k5 => ?_
            rw [join_empty]
            k_steps
            rename Fr _ _ _ _ => FF
            rename News _ _ _ _ => NN
            rw [List.push_toArray, List.nil_append, hJ] at NN
            apply Mine.turnEnd (⟨[.str (mkS ([40, 63, 62, 46, 42, 63] ++ (xs.flatMap (·.cps.toList) ++ [41]))) ?tk7], cc + 1, (ms.length : Int) + 1, ?tb7⟩)
            ((case fr | nw => k_asm); (case own' | led => walk_at "M sub"); (case hps => walk_at "M ps"); (case off => walk_at "M off"))
            exact ⟨.inr ⟨_, rfl, rfl⟩, toNat_down _⟩
      · have b1 : ((ms.length : Int) + 1 + 1 == (ms.length : Int) + 2) = true := by rw [beq_iff_eq]; lia
        k_steps
        refine WhlIf.yes (decide_eq_true (by lia)) ?_
        k_steps
        rename Fr _ _ _ _ => FF
        rename News _ _ _ _ => NN
        have hi9 : (ms.length : Int) + 1 + 1 = (ms.length : Int) + 2 := rfl
        dsimp +zetaDelta only at FF
        rw [hi9] at FF
        have b9 : ((ms.length : Int) + 2 == (ms.length : Int) + 2) = true := by rw [beq_iff_eq]
        (first | (with_reducible refine (?_ : TurnPost _ _ _ _ _ _ _ _ _ _ _ _)) | skip); dsimp only [TurnPost]
        k_steps
        rename Fr _ _ _ _ => FF
        rename News _ _ _ _ => NN
        refine join_list (ys := [mkS ([40, 63, 62, 46, 42, 63] ++ (xs.flatMap (·.cps.toList) ++ [41])), Str.ofString ".*"]) (News.isList NN (.head _)) (.cons _ _ (.cons _ _ .nil)) ?_ fun t5 k5 => ?_
        · rw [show (Str.ofString "").length = 0 by decide, Nat.mul_zero, Nat.add_zero]
          rw [mkS_len] at hjl
          simp only [List.map_cons, List.map_nil, List.sum_cons, List.sum_nil, mkS_len, List.length_append, List.length_cons, List.length_nil, show (Str.ofString ".*").length = 2 by decide]
          lia
        have hK : Txt.join (Str.ofString "") [mkS ([40, 63, 62, 46, 42, 63] ++ (xs.flatMap (·.cps.toList) ++ [41])), Str.ofString ".*"] = mkS ([40, 63, 62, 46, 42, 63] ++ (xs.flatMap (·.cps.toList) ++ [41, 46, 42])) := by
          rw [join_empty, show Str.ofString ".*" = mkS [46, 42] by decide]
          simp [mkS_toList]
        rw [hK]
        have hM : Str.empty ++ Str.ofString "(?s:" ++ mkS ([40, 63, 62, 46, 42, 63] ++ (xs.flatMap (·.cps.toList) ++ [41, 46, 42])) ++ Str.ofString ")\\Z" = joined xs := by
          rw [show Str.empty ++ Str.ofString "(?s:" = mkS [40, 63, 115, 58] by decide, show Str.ofString ")\\Z" = mkS [41, 92, 90] by decide, mkS_app, mkS_app]
          unfold joined
          congr 1
          simp
        have hMj : (mkS ([40, 63, 62, 46, 42, 63] ++ (xs.flatMap (·.cps.toList) ++ [41, 46, 42]))).length ≤ 500 := by
          rw [mkS_len] at hjl ⊢
          simp only [List.length_append, List.length_cons, List.length_nil]; lia
        have q3 := app_fit2 (a := Str.ofString "(?s:") (by decide) hMj (by decide)
        have q4 := app_fit (a := Str.ofString "(?s:") (c := Str.ofString ")\\Z") (by decide) hMj (by decide) (by decide)
        have hMl : (Str.empty ++ Str.ofString "(?s:" ++ mkS ([40, 63, 62, 46, 42, 63] ++ (xs.flatMap (·.cps.toList) ++ [41, 46, 42])) ++ Str.ofString ")\\Z").length ≤ sizeLine := by
          rw [mkS_len] at hjl
          rw [hM, joined, mkS_len, sizeLine_eq]
          simp only [List.length_append, List.length_cons, List.length_nil]; lia
        k_steps
        rw [hM]
        exact hret _ _ _ (Fr.keep (by k_asm))
end
section
local macro_rules | `(tactic| walk_at "call type:object") => `(tactic| walk_at "M stop")
local macro_rules | `(tactic| k_ne) => `(tactic| ((try dsimp only); first | assumption | (refine Ne.symm ?_; assumption)))
noncomputable def It.out : It → Str
  | .star => mkS []
  | .cls c => mkS [91, 94, c, 93]
  | .nl => mkS [92, 10]
theorem strs_of_pcs {sa : Addr} : ∀ {ms : List Value} {mid : List It}, Paired (PcIs sa) ms mid → (∀ i ∈ mid, i ≠ .star) → StrsAre ms (mid.map It.out) := by
  intro ms mid hp
  induction hp with
  | nil => exact fun _ => .nil
  | @cons v i _ _ h r ih' =>
    intro hs
    have ih := ih' fun i hi => hs i (.tail _ hi)
    cases i with
    | star => exact absurd rfl (hs _ (.head _))
    | cls c => obtain ⟨t, rfl⟩ := h; exact .cons _ t ih
    | nl => obtain ⟨t, rfl⟩ := h; exact .cons _ t ih
theorem calm_mid : ∀ {mid : List It}, (∀ i ∈ mid, i ≠ .star) → Calm (mid ++ [.star])
  | [], _ => trivial
  | .star :: r, h => absurd rfl (h _ (.head _))
  | .cls c :: r, h => calm_mid (mid := r) fun i hi => h i (.tail _ hi)
  | .nl :: r, h => calm_mid (mid := r) fun i hi => h i (.tail _ hi)
theorem calm_all {mid : List It} (h0 : mid ≠ []) (h : ∀ i ∈ mid, i ≠ .star) : Calm (.star :: (mid ++ [.star])) := by
  cases mid with
  | nil => exact absurd rfl h0
  | cons x r =>
    have h1 := calm_mid h
    cases x with
    | star => exact absurd rfl (h _ (.head _))
    | cls c => exact h1
    | nl => exact h1
/-- a call has come back that kept all but one table of the ledger -/
theorem after_call {h₀ h h' : Heap} {L P : Addr} {m : Str → Option Value} {news : List (Addr × Obj)} {o o' : Obj} (F : Fr h₀ L h m) (N : News h₀ L h ((P, o) :: news)) (hne : ∀ q ∈ news, q.1 ≠ P)
    (hx : ∀ b ob, b ≠ P → h.get? b = some ob → h'.get? b = some ob) (hP : h'.get? P = some o') : Fr h₀ L h' m ∧ News h₀ L h' ((P, o') :: news) := by
  have n := N _ (.head _)
  refine ⟨⟨F.ns.extBut (fun b ob hb e => hx b ob hb e) (fun e => n.2.1 e.symm), fun b ob e => hx b ob (fun q => ?_) (F.keep b ob e), F.above⟩, fun q hq => ?_⟩
  · have := n.2.2; simp only at this; rw [q, this] at e; cases e
  · rcases List.mem_cons.mp hq with rfl | hq
    · exact ⟨hP, n.2⟩
    · exact ⟨hx _ _ (hne q hq) (N q (.tail _ hq)).1, (N q (.tail _ hq)).2⟩
/-- a new object comes into the ledger -/
theorem news_add {h₀ h h' : Heap} {L D : Addr} {m : Str → Option Value} {news : List (Addr × Obj)} {o : Obj} (F : Fr h₀ L h m) (N' : News h₀ L h' news) (hD : h.get? D = none) (h1 : h'.get? D = some o) : News h₀ L h' ((D, o) :: news) := fun q hq => by
  rcases List.mem_cons.mp hq with rfl | hq
  · refine ⟨h1, fun e => ?_, ?_⟩
    · obtain ⟨oL, _, _, hL, _⟩ := F.ns
      simp only at e
      rw [e, hL] at hD; cases hD
    · cases e : h₀.get? D with
      | none => rfl
      | some o' => rw [F.keep _ _ e] at hD; cases hD
  · exact N' q hq
theorem translateC {w : World} {p : Program} {loose : List Str} {mean : ExcName → Option Value} {mg mb : Str → Option Value} (mid : List It) (t1 : Tok) (tb : Option Addr)
    (dp un : Nat) (gd : Option (List Code)) (cn : Str) (cs : Scope) (a : Addr) (ccd : Value) (cl : List (Str × Addr)) (outer : List Env) (A₀ : Around) (base h₀ : Heap) (L : Addr) (m : Str → Option Value) (s : Shared) (Q E : Value → Shared → Prop)
    (hpt : mid.length ≤ 90) (h0 : mid ≠ []) (hok : ∀ i ∈ mid, i.ok) (hns : ∀ i ∈ mid, i ≠ .star) (N : News h₀ L s.heap [(225, tabObj (tabOf tb))]) (C : CodeHd base 229 225)
    (B : Below A₀ base outer h₀) (F : Fr h₀ L s.heap m) (X : (Mine.hd.heap_1 w.params).In h₀) (T : Top p loose mean mg mb h₀) (hk : cs.kind = .function) (hd : dp + 16 < recursionLimit) (hu : un + 350 < cLine)
    (hret : ∀ t h' tk' tb', (∀ b o, b ≠ 225 → s.heap.get? b = some o → h'.get? b = some o) → h'.get? 225 = some (tabObj (tabOf tb')) → Q (.str (joined (mid.map It.out)) t) { s with heap := h', toks := tk' }) :
    wpAny (model PySem.Challenge.rw_ik0127_01.row.prog w) (ktrTop dp un gd cn cs L a ccd cl outer) (call (.ref 211) [.str (mkS (flat (.star :: (mid ++ [.star])))) t1]) Q E s := by
  revert X T; k_fill; intro X T
  refine wpAny_call ?_
  k_dflt (refine' Mine.enterT ?kN ?k1 ?k2 ?k3 ?k5 ?kA ?kF ?kK ?k6 ?k7 ?k8 ?k9 ?kB ?_ ?c2 ?c3 ?c4 ?c5; (case kA | kF => exact rfl); (case kK | kN => assumption); (case k1 | k2 | k3 | k5 => k_asm); (case k6 | k7 => k_is); (case k8 => ktr_room); (case k9 => exact BindsTo.of_eq rfl); (case c5 => decide); (case kB => exact locs rfl); (case c2 | c3 | c4 => exact rfl); k_whole; intro _ _ _ _ _ _ _ _ _ _; (try dsimp only); (try k_fold))
  rename_i L' h' g' kg' F' N' B' X' T' kn'
  k_steps
  refine Mine.objectNewK (by k_asm) (by k_asm) ?_
  intro _ _ _ _ l1
  (try simp only [List.forall_mem_cons, List.not_mem_nil, false_implies, implies_true, and_true] at l1)
  k_steps
  rename Fr _ _ _ _ => FF
  rename News _ _ _ _ => NN
  apply Mine.transIn (tb := tb)
  ((case B | F | X | T => k_asm); (case hk => with_unfolding_all rfl); (case hd | hu => first | omega | decide | (simp only [ktrTop]; omega)))
  case hpt => simp only [List.length_cons, List.length_append, List.length_nil]; lia
  case hok =>
    intro i hi
    rcases List.mem_cons.mp hi with rfl | hi
    · trivial
    · rcases List.mem_append.mp hi with hi | hi
      · exact hok i hi
      · rw [List.mem_singleton.mp hi]; trivial
  case hcalm => exact calm_all h0 hns
  case N => exact fun q hq => NN q (.tail _ hq)
  case C => assumption
  case hret =>
    intro D ys c9 h9 tk9 tb9 hP hk9 hT9 hD hI9
    have ne1 := news_ne NN (.head _) (.tail _ (.head _)) (by intro e; cases e)
    have hac := after_call (P := 225) (o := tabObj (tabOf tb)) (o' := tabObj (tabOf tb9)) (news := []) FF (fun q hq => NN q (.tail _ hq)) (by simp) hk9 hT9
    have N9 := news_add FF hac.2 hD hI9
    have F9 := hac.1
    cases hP with
    | cons h1 hP =>
    obtain ⟨ms, last, rfl, hms, hl⟩ := paired_last hP
    rw [h1, hl] at hI9 N9
    have hst := strs_of_pcs hms hns
    have hml := hms.length
    k_steps
    apply Mine.joinC (ms := ms) (xs := mid.map It.out)
    ((case B | F | X | T => k_asm); (case hk => with_unfolding_all rfl); (case hd | hu => first | omega | decide | (simp only [ktrTop]; omega)))
    case hI => exact (‹News g' _ _ ((D, _) :: _)› _ (.head _)).1
    case hxs => exact hst
    case hml => lia
    case hm0 =>
      have : 0 < mid.length := List.length_pos_iff.mpr h0
      lia
    case hx4 =>
      intro x hx
      obtain ⟨i, _, rfl⟩ := List.mem_map.mp hx
      cases i <;> simp [It.out, mkS, Str.length]
    case hret =>
      intro t h' tk' hk'
      refine hret _ _ _ tb9 (fun b o hb e => hk' b o (Fr.keep (by k_asm) b o (kg' b o e hb))) (hk' _ _ (‹News g' _ _ ((D, _) :: _)› _ (.tail _ (.head _))).1)
end
section
section
variable {prog : Program} {w : World} {A : Around} {E : Value → Shared → Prop} {s : Shared}
/-- a first entry was noted of an exception: what stands there now -/
structure Fresh1 (base : Heap) (l : List Env) (e : Addr) (oe : Obj) (vs : Array Value) (L : Addr) (h h' : Heap) : Prop where
  stays : base.StaysIn h'
  frames : h'.FunFrames base l
  upto : h.UpToSlots h'
  tr : ∃ T oT ts, h'.get? e = some (Obj.mapFields (·.setIfInBounds 1 (Value.ref T)) oe) ∧ base.get? T = none ∧ T ≠ e ∧ h'.get? T = some oT ∧ oT.data = .fields ts ∧ ts[3]? = some (rawInt L)
theorem noteFresh {base : Heap} {env : Env} {outer : List Env} {L e : Addr} {oe : Obj} {vs : Array Value} {Q : Unit → Shared → Prop}
    (hfr : A.frames = some (env :: outer)) (hl : s.heap.FunFrames base (env :: outer)) (hf : env.frame = some L)
    (he : s.heap.get? e = some oe) (hkb : base.StaysIn s.heap) (hen : base.get? e = none) (hd : oe.data = .fields vs) (h1 : vs[1]? = some .none)
    (h : ∀ h', Fresh1 base (env :: outer) e oe vs L s.heap h' → Q () { s with heap := h' }) : wpAny (model prog w) A (noteFrame (.ref e) env) Q E s := by
  have hsz : 1 < vs.size := (Array.getElem?_eq_some_iff.mp h1).1
  have notIn : e ∉ (env :: outer).filterMap (·.frame) := fun hm => by
    obtain ⟨_, o, ho, hnf⟩ := hl.mem hm
    rw [he] at ho
    cases ho
    exact hnf vs hd
  delta noteFrame
  simp only [hf]
  refine wpAny_bind (wpAny_field he hd h1 ?_)
  rw [if_neg (by decide)]
  refine wpAny_bind (wpAny_frameOf_fun hfr hl hf fun h₁ S => wpAny_bind (wpAny_entryPlaceOf fun pl hpl => ?_))
  delta EntryCells.newEntry newFields
  refine wpAny_bind (wpAny_newObj_type ?_ (hpl.sizeOk5 _ _ _ _ _))
  have e1 : h₁.get? e = some oe := by rw [S.2.1 e notIn]; exact he
  have st1 : base.StaysIn h₁ := fun b o hb => by
    rw [S.2.1 b fun hm => by rw [(hl.mem hm).1] at hb; cases hb]
    exact hkb b o hb
  have lt1 : e < h₁.objs.size := Heap.lt_size e1
  refine wpAny_setField (Heap.get?_push_of_some _ e1) hd hsz (h _ ?_)
  have other : ∀ (tO : Obj) b o, b ≠ e → h₁.get? b = some o → ((h₁.push tO).update e (Obj.mapFields (·.setIfInBounds 1 (Value.ref h₁.objs.size)))).get? b = some o := fun tO b o hb ho => by
    rw [Heap.get?_update_other _ _ (Ne.symm hb)]
    exact Heap.get?_push_of_some _ ho
  have plain : ∀ b o, s.heap.get? b = some o → (∀ vs, o.data ≠ .fields vs) → b ≠ e := fun b o hb hn q => by
    rw [q, he] at hb
    cases hb
    exact hn vs hd
  have hd2 := Obj.data_mapFields hd (·.setIfInBounds 1 (Value.ref h₁.objs.size))
  refine ⟨fun b o hb => other _ b o (fun q => by rw [q, hen] at hb; cases hb) (st1 b o hb), hl.of_keeps fun b o hb hn => ?_, fun b o hb hn => ?_, h₁.objs.size, _, _, ?_, st1.fresh, Nat.ne_of_gt lt1, (Heap.get?_update_other _ _ (Nat.ne_of_lt lt1)).trans (Heap.get?_push_size h₁ rfl), rfl, ?_⟩
  · obtain ⟨sl, x⟩ := S.2.2 b o hb
    exact ⟨_, other _ b _ (plain b o hb hn) x, rfl⟩
  · obtain ⟨sl, x⟩ := S.2.2 b o hb
    exact ⟨sl, other _ b _ (plain b o hb hn) x⟩
  · exact Heap.get?_update_self _ (Heap.get?_push_of_some _ e1) (Obj.isFreed_of_fields hd2)
  · first | (simp; done) | (rcases hpl with rfl | ⟨_, _, _, _, _, _, _, rfl⟩ <;> simp)
end
theorem upd_upto {h : Heap} {T : Addr} {oT : Obj} {ts : Array Value} {f : Obj → Obj} (hT : h.get? T = some oT) (hd : oT.data = .fields ts) : h.UpToSlots (h.update T f) := fun b o hb hn =>
  ⟨o.slots, (Heap.get?_update_other _ _ (fun q => by rw [← q, hT] at hb; cases hb; exact hn ts hd)).trans hb⟩
theorem upd_stays {base h : Heap} {T : Addr} {f : Obj → Obj} (st : base.StaysIn h) (hn : base.get? T = none) : base.StaysIn (h.update T f) := fun b o hb =>
  (Heap.get?_update_other _ _ (fun q => by rw [← q, hn] at hb; cases hb)).trans (st b o hb)
section
variable {g h0 h' : Heap} {L' L : Addr} {m : Str → Option Value} {oL : Obj} {new : List (Addr × Obj)}
theorem recover (F : Fr g L' h0 m) (N : News g L' h0 (new ++ [(L, oL)])) (hne : ∀ p ∈ new, p.1 ≠ L) (hd : ∃ es ep, oL.data = .dict es ep) (st : (hideAll h0 [L', L]).StaysIn h') (sm : h0.UpToSlots h') :
    Fr g L' h' m ∧ ∃ sl, News g L' h' (new ++ [(L, { oL with slots := sl })]) := by
  have nL := N _ (List.mem_append_right _ (.head _))
  obtain ⟨es, ep, hdd⟩ := hd
  obtain ⟨sl, hsl⟩ := sm L oL nL.1 fun vs q => by rw [hdd] at q; cases q
  refine ⟨⟨sm.ns F.ns, fun b o hb => st b o (hideAll_get _ (F.keep b o hb) fun hm => ?_), F.above⟩, sl, fun p hp => ?_⟩
  · rcases List.mem_cons.mp hm with rfl | hm
    · exact Nat.lt_irrefl _ (Nat.lt_of_lt_of_le (Heap.lt_size hb) F.above)
    · rw [List.mem_singleton.mp hm, nL.2.2] at hb; cases hb
  · rcases List.mem_append.mp hp with hp | hp
    · have n := N p (List.mem_append_left _ hp)
      refine ⟨st _ _ (hideAll_get _ n.1 fun hm => ?_), n.2⟩
      rcases List.mem_cons.mp hm with q | hm
      · exact n.2.1 q
      · exact hne p hp (List.mem_singleton.mp hm)
    · rw [List.mem_singleton.mp hp]
      exact ⟨hsl, nL.2⟩
theorem frames2 {env envL : Env} {h1 : Heap} (F : Fr g L' h0 m) (N : News g L' h0 (new ++ [(L, oL)])) (hd : ∃ es ep, oL.data = .dict es ep) (hk : ∀ b o, h0.get? b = some o → h1.get? b = some o)
    (h1k : env.scope.kind ≠ .module) (h1f : env.frame = some L') (h2k : envL.scope.kind ≠ .module) (h2f : envL.frame = some L) : h1.FunFrames (hideAll h0 [L', L]) [env, envL] := by
  obtain ⟨o, es, ep, ho, hod, _⟩ := F.ns
  obtain ⟨es2, ep2, hdd⟩ := hd
  exact ⟨h1k, ⟨L', o, h1f, hideAll_none _ (.head _), hk _ _ ho, fun vs q => by rw [hod] at q; cases q⟩, h2k, ⟨L, oL, h2f, hideAll_none _ (.tail _ (.head _)), hk _ _ (N _ (List.mem_append_right _ (.head _))).1, fun vs q => by rw [hdd] at q; cases q⟩, trivial⟩
end
section
variable {prog : Program} {w : World} {A : Around} {E : Value → Shared → Prop} {s' : Shared} {g h0 : Heap} {L' L a e : Addr} {m mg mb : Str → Option Value} {oL : Obj} {new : List (Addr × Obj)} {name : Str} {scope : Scope} {cd : Value} {envL : Env} {K : Frag} {p : Program} {loose : List Str} {mean : ExcName → Option Value}
  {b₀ : Stmt} {suite : List Stmt} {pos np : Pos} {Q : Flow → Shared → Prop}
theorem caughtOf (hx : Heap.NewExcOf h0 s'.heap e "IndexError") (F : Fr g L' h0 m) (N : News g L' h0 (new ++ [(L, oL)])) (hne : ∀ q ∈ new, q.1 ≠ L) (hd : ∃ es ep, oL.data = .dict es ep) (X : K.In g) (T : Top p loose mean mg mb g)
    (hA : A.frames = some [envOf name scope L' a cd, envL]) (hk : scope.kind = .function) (h2k : envL.scope.kind ≠ .module) (h2f : envL.frame = some L)
    (ex : nsIn K mainGlobals "IndexError" = some none) (hkx : (envOf name scope L' a cd).kindOf "IndexError" = some .globalImplicit)
    (hE : PassesOwnAt (model prog w) (A.mark (some (.ref e))) A (envOf name scope L' a cd) E)
    (k : ∀ h' sl, Fr g L' h' m → News g L' h' (new ++ [(L, { oL with slots := sl })]) → wpAny (model prog w) (A.mark (some (.ref e))) (execs (b₀ :: suite) (envOf name scope L' a cd)) Q E { s' with heap := h' }) :
    wpAny (model prog w) A (noteFrame (.ref e) (envOf name scope L' a cd)) (fun _ s₂ => wpAny (model prog w) A (setFlight (.ref e) none) (fun _ s₃ =>
      wpAny (model prog w) A (handleBy (.ref e) (envOf name scope L' a cd) [.ExceptHandler (some (.Name "IndexError" np)) none (b₀ :: suite) pos]) Q E s₃) E s₂) E s' := by
  obtain ⟨oe, vs, he, hcl, hdt, h1⟩ := hx.there
  have hsz : 1 < vs.size := (Array.getElem?_eq_some_iff.mp h1).1
  have hmod : (envOf name scope L' a cd).scope.kind ≠ .module := by show scope.kind ≠ .module; rw [hk]; decide
  have sm0 : h0.UpToSlots s'.heap := .of_keeps hx.keeps
  refine noteFresh (base := hideAll h0 [L', L]) hA (frames2 F N hd hx.keeps hmod rfl h2k h2f) rfl he (fun b o hb => hx.keeps b o (of_hideAll _ hb)) ?_ hdt h1 fun h₁ R => ?_
  · cases q : (hideAll h0 [L', L]).get? e with
    | none => rfl
    | some o => have := of_hideAll _ q; rw [hx.new] at this; cases this
  obtain ⟨T1, oT, ts, he1, hT0, hTe, hT, hdT, h3⟩ := R.tr
  have hts : 3 < ts.size := (Array.getElem?_eq_some_iff.mp h3).1
  have hd1 := Obj.data_mapFields hdt (·.setIfInBounds 1 (Value.ref T1))
  have h11 : (vs.setIfInBounds 1 (Value.ref T1))[1]? = some (.ref T1) := by simp [hsz]
  have sm1 := sm0.trans R.upto
  refine wpAny_setFlight_none he1 hd1 h11 hT hdT hts ?_
  have hd2 := Obj.data_mapFields hdT (·.setIfInBounds 3 Value.none)
  have hT2 := Heap.get?_update_self (Obj.mapFields (·.setIfInBounds 3 Value.none)) hT (Obj.isFreed_of_fields hd2)
  have he2 : (h₁.update T1 (Obj.mapFields (·.setIfInBounds 3 Value.none))).get? e = _ := (Heap.get?_update_other _ _ hTe).trans he1
  have st2 := upd_stays (f := Obj.mapFields (·.setIfInBounds 3 Value.none)) R.stays hT0
  have sm2 := sm1.trans (upd_upto (f := Obj.mapFields (·.setIfInBounds 3 Value.none)) hT hdT)
  obtain ⟨F2, sl2, N2⟩ := recover F N hne hd st2 sm2
  have hcl1 : (Obj.mapFields (·.setIfInBounds 1 (Value.ref T1)) oe).cls = .type "IndexError" := (Obj.cls_mapFields _ _).trans hcl
  refine wpAny_handleBy_builtin (X := "IndexError") (T := "IndexError") (b := true) PySem.F.isExc_IndexError PySem.F.notTuple_IndexError (by rw [isSubtype_type]; kernel_rfl)
    (name_B F2 X (topRead_of T) ex rfl (by decide) ⟨rfl, ⟨_, he2, hcl1⟩, ?_⟩ hk hkx (by decide))
  refine wpAny_setFlight_none he2 hd1 h11 hT2 hd2 (by simpa using hts) ?_
  have st3 := upd_stays (f := Obj.mapFields (·.setIfInBounds 3 Value.none)) st2 hT0
  have sm3 := sm2.trans (upd_upto (f := Obj.mapFields (·.setIfInBounds 3 Value.none)) hT2 hd2)
  obtain ⟨F3, sl3, N3⟩ := recover F N hne hd st3 sm3
  exact wpAny_passesOwnAt hE (k _ sl3 F3 N3)
end
section
variable {prog : Program} {w : World} {A : Around} {E : Value → Shared → Prop} {s' : Shared} {g h0 : Heap} {L' L a e : Addr} {m : Str → Option Value} {oL : Obj} {new : List (Addr × Obj)} {name : Str} {scope : Scope} {cd : Value} {envL : Env}
  {f₀ : Stmt} {fs : List Stmt} {Q : Flow → Shared → Prop}
/-- an exception flies out of a try with a finally clause -/
theorem raisedOf (hx : Heap.NewExc h0 s'.heap e "IndexError") (F : Fr g L' h0 m) (N : News g L' h0 (new ++ [(L, oL)])) (hne : ∀ q ∈ new, q.1 ≠ L) (hd : ∃ es ep, oL.data = .dict es ep)
    (hA : A.frames = some [envOf name scope L' a cd, envL]) (hk : scope.kind = .function) (h2k : envL.scope.kind ≠ .module) (h2f : envL.frame = some L)
    (hE : PassesOwnAt (model prog w) (A.mark (some (.ref e))) A (envOf name scope L' a cd) E)
    (k : ∀ h' sl o1 vs1, Fr g L' h' m → News g L' h' ((e, o1) :: (new ++ [(L, { oL with slots := sl })])) → o1.data = .fields vs1 → vs1[2]? = some .none → e ≠ L →
      wpAny (model prog w) (A.mark (some (.ref e))) (execs (f₀ :: fs) (envOf name scope L' a cd))
        (fun gg s₂ => match gg with | .next => wpAny (model prog w) A (passOn "try.finally" (.ref e) (envOf name scope L' a cd)) Q E s₂ | gg => wpAny (model prog w) A (setFlight (.ref e) none) (fun _ s₃ => Q gg s₃) E s₂) E { s' with heap := h' }) :
    wpAny (model prog w) A (noteFrame (.ref e) (envOf name scope L' a cd)) (fun _ s₂ => FinallyRaised prog w A E (envOf name scope L' a cd) (f₀ :: fs) Q (.ref e) s₂) (FinallyRaised prog w A E (envOf name scope L' a cd) (f₀ :: fs) Q) s' := by
  obtain ⟨oe, t, he, hcl, hdt⟩ := hx.there
  have hmod : (envOf name scope L' a cd).scope.kind ≠ .module := by show scope.kind ≠ .module; rw [hk]; decide
  have sm0 : h0.UpToSlots s'.heap := .of_keeps hx.keeps
  have nL := N _ (List.mem_append_right _ (.head _))
  have heL : e ≠ L := fun q => by have := nL.1; simp only at this; rw [← q, hx.new] at this; cases this
  have heL' : e ≠ L' := fun q => by obtain ⟨_, _, _, h, _⟩ := F.ns; rw [← q, hx.new] at h; cases h
  have heg : g.get? e = none := by
    cases q : g.get? e with
    | none => rfl
    | some o => have := F.keep _ _ q; rw [hx.new] at this; cases this
  refine noteFresh (base := hideAll h0 [L', L]) hA (frames2 F N hd hx.keeps hmod rfl h2k h2f) rfl he (fun b o hb => hx.keeps b o (of_hideAll _ hb)) ?_ hdt rfl fun h₁ R => ?_
  · cases q : (hideAll h0 [L', L]).get? e with
    | none => rfl
    | some o => have := of_hideAll _ q; rw [hx.new] at this; cases this
  obtain ⟨T1, oT, ts, he1, hT0, hTe, hT, hdT, h3⟩ := R.tr
  have hts : 3 < ts.size := (Array.getElem?_eq_some_iff.mp h3).1
  have hd1 := Obj.data_mapFields hdt (·.setIfInBounds 1 (Value.ref T1))
  have h11 : ((#[t, .none, .none, .none, .bool false, .none] : Array Value).setIfInBounds 1 (Value.ref T1))[1]? = some (.ref T1) := by simp
  have h12 : ((#[t, .none, .none, .none, .bool false, .none] : Array Value).setIfInBounds 1 (Value.ref T1))[2]? = some .none := by simp
  have h10 : ((#[t, .none, .none, .none, .bool false, .none] : Array Value).setIfInBounds 1 (Value.ref T1))[0]? = some t := by simp
  have sm1 := sm0.trans R.upto
  have hcl1 : (Obj.mapFields (·.setIfInBounds 1 (Value.ref T1)) oe).cls = .type "IndexError" := (Obj.cls_mapFields _ _).trans hcl
  refine ⟨ref_ne_byPass e, wpAny_noteFrame_againW (base := hideAll h0 [L', L]) (L := L') (cls := .type "IndexError") (a0 := t) rfl ⟨_, _, T1, oT, ts, he1, ⟨hcl1, h10⟩, hd1, h11, hT0, hTe, hT, hdT, h3⟩ ?_⟩
  refine wpAny_setFlight_none he1 hd1 h11 hT hdT hts ?_
  have he2 : (h₁.update T1 (Obj.mapFields (·.setIfInBounds 3 Value.none))).get? e = _ := (Heap.get?_update_other _ _ hTe).trans he1
  have st2 := upd_stays (f := Obj.mapFields (·.setIfInBounds 3 Value.none)) R.stays hT0
  have sm2 := sm1.trans (upd_upto (f := Obj.mapFields (·.setIfInBounds 3 Value.none)) hT hdT)
  obtain ⟨F2, sl2, N2⟩ := recover F N hne hd st2 sm2
  refine wpAny_passesOwnAt hE (k _ sl2 _ _ F2 (fun p hp => ?_) hd1 h12 heL)
  rcases List.mem_cons.mp hp with rfl | hp
  · exact ⟨he2, heL', heg⟩
  · exact N2 p hp
end
end
section
section
variable {prog : Program} {w : World} {A : Around} {E : Value → Shared → Prop} {s : Shared}
theorem getItem_outH {l : Addr} {items : Array Value} {k : Int} {t : Tok} {Q : Value → Shared → Prop} {e1 : Addr} {o1 : Obj} {vs1 : Array Value} (hh : A.handled = some (.ref e1)) (h1 : s.heap.get? e1 = some o1) (d1 : o1.data = .fields vs1) (c1 : vs1[2]? = some .none)
    (hl : s.heap.IsList l items) (hout : (items.size : Int) ≤ k) (hhi : k < 2 ^ 63) (hE : ∀ h' tk e, Heap.NewExcOf s.heap h' e "IndexError" → E (.ref e) { s with heap := h', toks := tk }) :
    wpAny (model prog w) A (getItem (.ref l) (.int k t)) Q E s := by
  have hlo : -(2 ^ 63) ≤ k := Int.le_trans (by decide) (Int.le_trans (Int.natCast_nonneg _) hout)
  obtain ⟨o, ho, hc, ne, hd⟩ := id hl
  unfold getItem
  try with_reducible refine wpAny_holding ?_
  first | refine wpAny_bind (wpAny_pure ?_) | skip
  refine wpAny_bind (wpAny_sequenceKey hl.typeIs (by decide) ?_)
  refine wpAny_bind (wpAny_callSpecial?_slot (name := Str.ofString "__getitem__") hl.typeIs slot_list_getitem
    (wpAny_call_entry slot_list_getitem hl.typeIs entry_list_getitem ?_ (args_list_getitem _ _)))
  show wpAny _ _ (Builtin.List.listSubscript? (.int k t) >>= _) _ _ s
  refine wpAny_bind (wpAny_listSubscript_int (fitsIndex_both hlo hhi) ?_)
  clear hlo hhi
  cases k with
  | ofNat j =>
    have hx : items[j]? = none := Array.getElem?_eq_none (Int.ofNat_le.mp hout)
    show wpAny _ _ ((seqItemAt l j >>= fun r => pure (r.map (j, ·))) >>= _) _ _ s
    refine wpAny_bind (wpAny_bind (wpAny_seqItemAt ho hd (wpAny_pure ?_)))
    rw [hx]
    dsimp only [Option.map]
    refine wpAny_bind (wpAny_rule (wpAny_bind ?_))
    exact raiseHandled plainExc_IndexError hh h1 d1 c1 hE
  | negSucc j => exact absurd hout (by have := Int.negSucc_lt_zero j; omega)
end
end
section
section
variable {prog : Program} {w : World} {A A₀ : Around} {s : Shared} {K : Frag} {L : Addr} {h₀ base : Heap} {m mg mb : Str → Option Value} {p : Program} {loose : List Str} {mean : ExcName → Option Value}
/-- a call of a def of the text that may catch: the caller's frame stands in the callee's ledger -/
theorem enterL {R : Result → Shared → Prop} {name qual : Str} {params : Arguments} {body : List Stmt} {scope : Scope} {dV kV doc pm cdv ct oc : Value} {an od : Option Addr} {osl : Array (Option Value)} {f : Addr} {args : Args} {binds : List (Str × Value)}
    (F : Fr h₀ L s.heap m) (X₀ : K.In h₀) (T : Top p loose mean mg mb h₀)
    (ho : K.lookup f = some ⟨oc, od, .func (fnOf name qual params body scope dV kV doc pm an cdv ct), osl⟩) (hcd : codeIn K cdv qual = true) (hroom : A.depth < recursionLimit)
    (hbind : BindsTo s (fnOf name qual params body scope dV kV doc pm an cdv ct) args binds) (hloc : ∀ y ∈ binds, scope.names.lookup y.1 = some .local)
    (h : ∀ oL L' h₁ g, (∀ b o, s.heap.get? b = some o → b ≠ L → g.get? b = some o) → (∀ b, s.heap.get? b = none → g.get? b = none) → s.heap.get? L = some oL → (∃ es ep, oL.data = .dict es ep) →
      Fr g L' h₁ (fun y => binds.reverse.lookup y) → News g L' h₁ [(L, oL)] → K.In g → Top p loose mean mg mb g →
      wpAny (model prog w) (A.deeper (envOf qual scope L' f cdv)) (execs body (envOf qual scope L' f cdv))
        (fun fl s' => R (.ok (.ret (match fl with | .ret v => v | _ => .none))) s')
        (fun e s' => wpAny (model prog w) (A.deeper (envOf qual scope L' f cdv)) (leaving (envOf qual scope L' f cdv) e) (fun _ s'' => R (.error e) s'') (fun e' s'' => R (.error e') s'') s')
        { s with heap := h₁, toks := s.toks + binds.length })
    (hco : scope.isCoroutine = false) (hgen : scope.isGenerator = false) (hk : scope.kind = .function)
    (hcell : ∀ x ∈ scope.names, x.2 ≠ .cell) : codeAny (model prog w) A (.call (.ref f) args) R s := by
  obtain ⟨oL, es, ep, hL, hLd, _⟩ := id F.ns
  refine codeAny_call_def (fd := fnX name qual params body scope [] dV kV doc pm an cdv ct) (body := body) (binds := binds) hroom ((X₀.keeps F.keep) _ _ ho) rfl (T.nolimit.keeps F.keep) (codeRec_of (X₀.keeps F.keep) hcd) rfl hbind hcell hloc (fun h₁ hns hk₁ => ?_) hco hgen hk
  have st : h₀.StaysIn (hideAll s.heap [L]) := fun b o e => hideAll_get _ (F.keep b o e) fun q => by
    rw [List.mem_singleton.mp q] at e
    exact Nat.lt_irrefl _ (Nat.lt_of_lt_of_le (Heap.lt_size e) F.above)
  refine h oL s.heap.objs.size h₁ (hideAll s.heap [L]) (fun b o e hb => hideAll_get _ e (by simpa using hb)) (fun b e => ?_) hL ⟨es, ep, hLd⟩ ⟨hns, fun b o e => hk₁ b o (of_hideAll _ e), Nat.le_of_eq (hideAll_size _ _)⟩ (fun q hq => ?_) (X₀.keeps st) (T.keeps st)
  · cases q : (hideAll s.heap [L]).get? b with
    | none => rfl
    | some o => rw [of_hideAll _ q] at e; cases e
  · rw [List.mem_singleton.mp hq]
    exact ⟨hk₁ _ _ hL, Nat.ne_of_lt (Heap.lt_size hL), hideAll_none _ (.head _)⟩
end
/-- what stands at a place of a list of texts -/
noncomputable def AtS (ys : List Str) (k : Int) (x : Str) : Prop := 0 ≤ k ∧ k < 2 ^ 63 ∧ ys[k.toNat]? = some x
noncomputable def OutS (ys : List Str) (k : Int) : Prop := (ys.length : Int) ≤ k ∧ k < 2 ^ 63
theorem AtS.of {ys : List Str} {k : Int} {x : Str} (j : Nat) (hk : k = (j : Int)) (hb : j < 1000000) (hx : ys[j]? = some x) : AtS ys k x := by
  subst hk
  exact ⟨az j, Int.lt_trans (Int.ofNat_lt.mpr hb) (by decide), hx⟩
theorem OutS.of {ys : List Str} {k : Int} (j : Nat) (hk : k = (j : Int)) (h : ys.length ≤ j) (hb : j < 1000000) : OutS ys k := by
  subst hk
  exact ⟨Int.ofNat_le.mpr h, Int.lt_trans (Int.ofNat_lt.mpr hb) (by decide)⟩
section
variable {prog : Program} {w : World} {A : Around} {E : Value → Shared → Prop} {s : Shared}
theorem item_strIn {value slice : Expr} {l : Addr} {vs : List Value} {ys : List Str} {k : Int} {u : Tok} {Q : Value → Shared → Prop} {x : Str} (hl : s.heap.IsList l vs.toArray) (hi : StrsAre vs ys) (hx : AtS ys k x) (h : ∀ t, Q (.str x t) s)
    (hs : subscripted slice false (.ref l) (.int k u) = operate [.ref l, .int k u] (getItem (.ref l) (.int k u)) := by with_unfolding_all rfl) : wpAny (model prog w) A (subscriptTail value slice (.ref l) (.int k u)) Q E s := by
  obtain ⟨t, e⟩ := hi.at hx.2.2
  exact tail_any hl.typeIs slot_list_getitem.lookup (wpAny_getItem_list hl hx.1 hx.2.1 (by simpa using e) (h t)) hs
theorem item_out {value slice : Expr} {l : Addr} {vs : List Value} {ys : List Str} {k : Int} {u : Tok} {Q : Value → Shared → Prop} (hA : A.handled = none) (hl : s.heap.IsList l vs.toArray) (hi : StrsAre vs ys) (hx : OutS ys k)
    (hE : ∀ h' tk e, Heap.NewExc s.heap h' e "IndexError" → E (.ref e) { s with heap := h', toks := tk })
    (hs : subscripted slice false (.ref l) (.int k u) = operate [.ref l, .int k u] (getItem (.ref l) (.int k u)) := by with_unfolding_all rfl) : wpAny (model prog w) A (subscriptTail value slice (.ref l) (.int k u)) Q E s :=
  tail_any hl.typeIs slot_list_getitem.lookup (wpAny_getItem_list_out hA hl (.inr (by rw [List.size_toArray, hi.length]; exact hx.1)) (by have := hx.1; lia) hx.2 hE) hs
theorem item_outH {value slice : Expr} {l : Addr} {vs : List Value} {ys : List Str} {k : Int} {u : Tok} {Q : Value → Shared → Prop} {e1 : Addr} {o1 : Obj} {vs1 : Array Value} (hh : A.handled = some (.ref e1)) (h1 : s.heap.get? e1 = some o1) (d1 : o1.data = .fields vs1) (c1 : vs1[2]? = some .none)
    (hl : s.heap.IsList l vs.toArray) (hi : StrsAre vs ys) (hx : OutS ys k)
    (hE : ∀ h' tk e, Heap.NewExcOf s.heap h' e "IndexError" → E (.ref e) { s with heap := h', toks := tk })
    (hs : subscripted slice false (.ref l) (.int k u) = operate [.ref l, .int k u] (getItem (.ref l) (.int k u)) := by with_unfolding_all rfl) : wpAny (model prog w) A (subscriptTail value slice (.ref l) (.int k u)) Q E s :=
  tail_any hl.typeIs slot_list_getitem.lookup (getItem_outH hh h1 d1 c1 hl (by rw [List.size_toArray, hi.length]; exact hx.1) hx.2 hE) hs
end
local macro_rules | `(tactic| walk_at "subscriptTail Name Name ref int") => `(tactic| (k_here; (with_unfolding_all refine' Mine.item_strIn ?k1 ?k2 ?k3 ?_ ?k4; (case k4 => with_unfolding_all rfl); (case k1 => is_list); (case k2 | k3 => with_reducible assumption); k_whole); intro _))
theorem strs_app : ∀ {vs ws : List Value} {xs ys : List Str}, StrsAre vs xs → StrsAre ws ys → StrsAre (vs ++ ws) (xs ++ ys) := by
  intro vs ws xs ys h1 h2
  induction h1 with
  | nil => exact h2
  | cons x t r ih => exact .cons x t ih
theorem ext_room {ms vs : List Value} {fs : List Str} {p : Str → Bool} (j : Nat) (h : fs.length ≤ 100) (h1 : StrsAre ms ((fs.take j).filter p)) (h2 : StrsAre vs fs) : ms.length + (vs.drop j).length ≤ 1000 := by
  have q1 := h1.length
  have q2 := h2.length
  have q3 := List.length_filter_le p (fs.take j)
  rw [List.length_take] at q3
  rw [List.length_drop, q1, q2]
  exact Nat.le_trans (Nat.add_le_add (Nat.le_trans q3 (Nat.le_trans (Nat.min_le_right ..) h)) (Nat.le_trans (Nat.sub_le ..) h)) (by decide)
theorem le_toNat {a b : Nat} (h : ¬ b < a) : a ≤ (b : Int).toNat := Nat.le_of_not_lt h
theorem strs_drop : ∀ {vs : List Value} {xs : List Str} (k : Nat), StrsAre vs xs → StrsAre (vs.drop k) (xs.drop k)
  | _, _, 0, h => h
  | _, _, _ + 1, .nil => .nil
  | _, _, k + 1, .cons _ _ r => strs_drop k r
theorem news_ned {h₀ h : Heap} {L a b : Addr} {news : List (Addr × Obj)} {o1 o2 : Obj} (N : News h₀ L h news) (h1 : (a, o1) ∈ news) (h2 : (b, o2) ∈ news) (d : o1.data ≠ o2.data) : a ≠ b := fun e => by
  have e1 := (N _ h1).1
  have e2 := (N _ h2).1
  simp only at e1 e2
  rw [e, e2] at e1
  exact d (by rw [Option.some.inj e1])
theorem step_cond2 {z : Str} {inner touched : List Str} {a b r : Option Value} (hz : touched.contains z = false) (hs : (inner.all fun y => touched.contains y) = true) (h : b = r) : (if inner.contains z = true then a else b) = r := by
  rw [if_neg, h]
  intro hc
  have h1 := List.all_eq_true.mp hs z (by simpa using hc)
  rw [hz] at h1; cases h1
local macro_rules | `(tactic| walk_at "M off1") => `(tactic| (refine Mine.step_cond2 (by assumption) (by decide) ?_; walk_at "M off1"))
theorem pass1 {M : Model} {A : Around} {env : Env} {E : Value → Shared → Prop} (hE : PassesOwn M A env E) {e : Value} {s' : Shared} (h : E e s') : notedBy M A env (cameBackBy M A env E) e s' := hE e s' h
theorem news_swap {h₀ h : Heap} {L : Addr} {x y : Addr × Obj} {rest : List (Addr × Obj)} (N : News h₀ L h (x :: y :: rest)) : News h₀ L h (y :: x :: rest) := fun p hp => N p (by
  rcases List.mem_cons.mp hp with rfl | hp
  · exact .tail _ (.head _)
  · rcases List.mem_cons.mp hp with rfl | hp
    · exact .head _
    · exact .tail _ (.tail _ hp))
theorem news_4th {h₀ h : Heap} {L : Addr} {x y z u : Addr × Obj} {rest : List (Addr × Obj)} (N : News h₀ L h (x :: y :: z :: u :: rest)) : News h₀ L h (u :: x :: y :: z :: rest) := fun p hp => N p (by
  simp only [List.mem_cons] at hp ⊢
  rcases hp with h | h | h | h | h
  · exact .inr (.inr (.inr (.inl h)))
  · exact .inl h
  · exact .inr (.inl h)
  · exact .inr (.inr (.inl h))
  · exact .inr (.inr (.inr (.inr h))))
theorem extend_any {prog : Program} {w : World} {A : Around} {E : Value → Shared → Prop} {s : Shared} {h₀ : Heap} {L D b : Addr} {m : Str → Option Value} {rest : List (Addr × Obj)} {xs ys : List Value} {n n2 : Nat} {Q : Value → Shared → Prop} (F : Fr h₀ L s.heap m)
    (N : News h₀ L s.heap ((D, PySem.W.listOf (List.toArray xs) n) :: rest)) (hD : ∀ p ∈ rest, p.1 ≠ D) (hb : (b, PySem.W.listOf (List.toArray ys) n2) ∈ rest) (hz : xs.length + ys.length ≤ 1000)
    (h : ∀ h' n', Fr h₀ L h' m → News h₀ L h' ((D, PySem.W.listOf (List.toArray (xs ++ ys)) n') :: rest) → Q .none { s with heap := h' }) : wpAny (model prog w) A (call (.builtin "list.extend") [.ref D, .ref b]) Q E s := by
  have hdoor : ¬(!(List.toArray xs).isEmpty && Builtin.List.listTooLong ((List.toArray xs).size + (List.toArray ys).size)) = true := extend_door (by simp only [List.size_toArray, sizeLine_eq]; lia)
  have z1 : (List.toArray xs).toList.length ≤ sizeLine := by simp only [sizeLine_eq]; lia
  have z2 : (List.toArray xs).size + (List.toArray ys).size ≤ sizeLine + 1 := by simp only [List.size_toArray, sizeLine_eq]; lia
  cases ys with
  | nil =>
    rw [List.append_nil] at h
    exact kxn_extend F N (.tail _ hb) rfl (.head hD) hdoor z1 z2 fun h' F' N' => h h' _ F' N'
  | cons y r => exact kl_extend F N (.tail _ hb) (l := xs ++ y :: r) rfl (by simp) (.head hD) hdoor z1 z2 fun h' F' N' => h h' _ F' N'
local macro_rules | `(tactic| walk_at "WhlIf") => `(tactic| first | refine WhlIf.yes (by with_reducible assumption) ?_ | refine WhlIf.no (by with_reducible assumption) ?_)
local macro_rules | `(tactic| walk_at "exec Try") => `(tactic| walk_at "M stop")
local macro_rules | `(tactic| walk_at "subscriptTail Name Slice ref ref") => `(tactic| (refine slice_list (by assumption) (by assumption) (by first | assumption | exact Fr.lst (by assumption) (by assumption)) (by constructor) (by constructor) ?_; intro _ _ _))
theorem sldC {w : World} {p : Program} {loose : List Str} {mean : ExcName → Option Value} {mg mb : Str → Option Value} (ea aa : Addr) (vs us : List Value) (fs : List Str) (cnt : Str → Nat)
    (dp un : Nat) (gd : Option (List Code)) (cn : Str) (cs : Scope) (a : Addr) (ccd : Value) (cl : List (Str × Addr)) (h₀ : Heap) (L : Addr) (m : Str → Option Value) (s : Shared) (Q E : Value → Shared → Prop)
    (hl : s.heap.IsList ea vs.toArray) (hi : StrsAre vs fs) (hl2 : s.heap.IsList aa us.toArray) (hi2 : StrsAre us (manyOf cnt fs)) (hn : fs.length ≤ 100) (hn0 : fs ≠ []) (hc : ∀ f, cnt f ≤ 2)
    (hs : fs.Pairwise fun x y => x.cps.toList < y.cps.toList)
    (F : Fr h₀ L s.heap m) (X : (Mine.hd.heap_1 w.params).In h₀) (T : Top p loose mean mg mb h₀) (hk : cs.kind = .function) (hd : dp + 20 < recursionLimit) (hu : un + 400 < cLine)
    (hret : ∀ R D U ys c h' tk', StrsAre ys (fs.filter fun f => decide (cnt f = 0)) → (∀ b o, b ≠ L → s.heap.get? b = some o → h'.get? b = some o) → (∀ oL, s.heap.get? L = some oL → ∃ sl, h'.get? L = some { oL with slots := sl }) →
      s.heap.get? R = none → s.heap.get? D = none → s.heap.get? U = none → h'.get? R = some { cls := .type "tuple", data := .seq #[.ref D, .ref U] } → h'.get? D = some (PySem.W.listOf (List.toArray ys) c) → (∃ c2, h'.get? U = some (PySem.W.listOf (List.toArray []) c2)) → Q (.ref R) { s with heap := h', toks := tk' }) :
    wpAny (model PySem.Challenge.rw_ik0127_01.row.prog w) (ktrTop dp un gd cn cs L a ccd cl []) (call (.ref 244) [.ref ea, .ref aa]) Q E s := by
  revert X T; k_fill; intro X T
  refine wpAny_call ?_
  k_dflt (refine' Mine.enterL ?k2 ?k3 ?k5 ?k6 ?k7 ?k8 ?k9 ?kB ?_ ?c2 ?c3 ?c4 ?c5; (case k2 | k3 | k5 => k_asm); (case k6 | k7 => k_is); (case k8 => ktr_room); (case k9 => exact BindsTo.of_eq rfl); (case c5 => decide); (case kB => exact locs rfl); (case c2 | c3 | c4 => exact rfl); k_whole; intro _ _ _ _ _ _ _ _ _ _ _ _; (try dsimp only); (try k_fold))
  rename_i oL L' h' g kg kn hL hLd F' N' X' T'
  have lst : ∀ {b : Addr} {xs : Array Value}, s.heap.IsList b xs → g.IsList b xs := fun ⟨o, e, c, n, d⟩ => ⟨o, kg _ _ e (fun q => by
    rw [q, hL] at e; cases e; obtain ⟨_, _, e3⟩ := hLd; rw [e3] at d; cases d), c, n, d⟩
  have gl := lst hl
  have gl2 := lst hl2
  k_steps
  rename_i hA tkA hB tkB M hC lC hD tkD U hE lE hG tkG FF NN
  apply Mine.whileInv (h₀ := g) (rest := [(U, PySem.W.listOf (List.toArray []) 0), (L, oL)]) (fun c : List Value × Nat × Nat × Tok × Tok => [(M, PySem.W.listOf (List.toArray c.1) c.2.1)]) (fun c => [(Str.ofString "i", .int (c.2.2.1 : Int) c.2.2.2.1), (Str.ofString "j", .int ((manyOf cnt (fs.take c.2.2.1)).length : Int) c.2.2.2.2)]) [Str.ofString "i", Str.ofString "j", Str.ofString "e", Str.ofString "a"]
    (fun c => StrsAre c.1 ((fs.take c.2.2.1).filter fun f => decide (cnt f = 0)) ∧ c.2.2.1 < fs.length) (fun c => fs.length - c.2.2.1) ⟨[], 0, 0, _, _⟩
  ((case hE => passes_own); (case F => k_asm); (case hps => walk_at "M ps"))
  case N => exact Mine.fm3 (NN _ (by k_mem)) (NN _ (by k_mem)) (NN _ (by k_mem))
  case hI => exact ⟨.nil, List.length_pos_iff.mpr hn0⟩
  case turn =>
    refine Mine.all_5 ?_; intro ms cc i ti tj u h tk hJ0 F1 N1
    obtain ⟨hms, hil⟩ := hJ0
    dsimp only [List.cons_append, List.nil_append] at N1
    dsimp only [loopM, kstB] at F1 hms hil
    have hlen := many_len2 hc fs
    have hle := many_le (cnt := cnt) (fs := fs) i
    have hmx : (manyOf cnt fs).length < 1000000 := Nat.lt_of_le_of_lt hlen (Nat.lt_of_le_of_lt (Nat.mul_le_mul_left 2 hn) (by decide))
    have hix : fs.length < 1000000 := Nat.lt_of_le_of_lt hn (by decide)
    have x1 : AtS fs (i : Int) fs[i] := .of i rfl (Nat.lt_trans hil hix) (List.getElem?_eq_getElem hil)
    clear FF NN
    k_steps
    refine wpAny_Try_except ?_
    iterate 12 walk_at "M w"
    by_cases hJ : (manyOf cnt (fs.take i)).length < (manyOf cnt fs).length
    case neg =>
      rename Fr _ _ _ _ => FF
      rename News _ _ _ _ => NN
      refine Mine.item_out rfl (Fr.lst FF gl2) hi2 (.of _ rfl (Nat.le_of_not_lt hJ) (Nat.lt_of_le_of_lt hle hmx)) ?_
      intro h9 tk9 e9 hx9
      refine Mine.caughtOf (new := [(M, PySem.W.listOf (List.toArray ms) cc), (U, PySem.W.listOf (List.toArray []) 0)]) hx9.of FF NN ?_ hLd X' T' rfl rfl ?_ rfl ?_ rfl ?_ ?_
      · exact Mine.fm2 (Nat.ne_of_gt lC) (Nat.ne_of_gt lE.2)
      · show cs.kind ≠ .module
        rw [hk]; decide
      · k_is
      · passes_own
      · intro h8 sl8 F8 N8
        dsimp only [List.cons_append, List.nil_append] at N8
        clear F1 N1 FF NN
        k_steps
        rename Fr _ _ _ _ => FF
        rename News _ _ _ _ => NN
        rw [pick_tail vs _ (by lia)] at NN
        have nu : U ≠ M := Nat.ne_of_gt lE.1
        have nm : L ≠ M := Nat.ne_of_lt lC
        have nl : L ≠ U := Nat.ne_of_lt lE.2
        refine Mine.extend_any (D := M) (xs := ms) (n := cc) (ys := vs.drop i) FF (news_swap NN) ?_ (.head _) ?_ ?_
        · exact Mine.fm3 (Nat.ne_of_gt (Nat.lt_succ_of_lt (Heap.lt_size (N8 _ (.head _)).1))) (nu) (nm)
        · exact Mine.ext_room _ hn hms hi
        intro h7 n7 F7 N7
        clear FF NN
        k_steps
        rename Fr _ _ _ _ => FF
        rename News _ _ _ _ => NN
        rw [pick_tail us _ (by lia), List.drop_of_length_le (by rw [hi2.length]; exact Mine.le_toNat (by first | assumption | lia))] at NN
        refine Mine.extend_any (D := U) (xs := []) (n := 0) (ys := []) FF (news_4th NN) ?_ (.head _) (by decide) ?_
        · exact Mine.fm4 (Nat.ne_of_gt (Nat.lt_succ_of_lt (Heap.lt_size (N7 _ (.tail _ (.tail _ (.head _)))).1))) (nu.symm) (Nat.ne_of_gt (Nat.lt_succ_of_lt (Heap.lt_size (N8 _ (.tail _ (.head _))).1))) (nl)
        intro h6 n6 F6 N6
        clear FF NN
        k_steps
        (first | (with_reducible refine (?_ : TurnPost _ _ _ _ _ _ _ _ _ _ _ _)) | skip); dsimp only [TurnPost]
        k_steps
        rename Fr _ _ _ _ => FF
        rename News _ _ _ _ => NN
        obtain ⟨es9, ep9, hLd9⟩ := hLd
        have non : ∀ b, g.get? b = none → b ≠ L → s.heap.get? b = none := fun b e1 e2 => by
          cases e3 : s.heap.get? b with
          | none => rfl
          | some o => rw [kg b o e3 e2] at e1; cases e1
        have nR := NN _ (.head _)
        have nU := NN _ (.tail _ (.head _))
        have nM := NN _ (.tail _ (.tail _ (.tail _ (.head _))))
        have nL := NN _ (.tail _ (.tail _ (.tail _ (.tail _ (.tail _ (.head _))))))
        refine hret _ M U _ n7 _ _ (by have := strs_app hms (strs_drop i hi); rw [left_all hJ] at this; exact this) (fun b o hb e => FF.keep b o (kg b o e hb)) (fun oL2 e => ?_) (non _ nR.2.2 (news_ned NN (.head _) (.tail _ (.tail _ (.tail _ (.tail _ (.tail _ (.head _)))))) (by show Data.seq _ _ ≠ oL.data; rw [hLd9]; intro q; cases q))) (non _ nM.2.2 nm.symm) (non _ nU.2.2 nl.symm) nR.1 nM.1 ⟨n6, nU.1⟩
        rw [hL] at e
        cases e
        exact ⟨sl8, nL.1⟩
    case pos =>
      by_cases h0 : cnt fs[i] = 0
      · obtain ⟨x, hx, hxm, hx0⟩ := many_here hJ
        have hxm2 : x ∈ fs.drop (i + 1) := by
          rw [List.drop_eq_getElem_cons hil] at hxm
          rcases List.mem_cons.mp hxm with rfl | h
          · lia
          · exact h
        have hi1 : i + 1 < fs.length := by
          have := List.length_pos_of_mem hxm2
          rw [List.length_drop] at this
          exact Nat.sub_pos_iff_lt.mp this
        have hlt := rise_later hs hil hxm2
        have hlt2 := rise_next hs hi1
        have x2 : AtS (manyOf cnt fs) ((manyOf cnt (fs.take i)).length : Int) x := .of _ rfl (Nat.lt_trans hJ hmx) hx
        have x3 : AtS fs ((i : Int) + 1) fs[i + 1] := .of (i + 1) rfl (Nat.lt_trans hi1 hix) (List.getElem?_eq_getElem hi1)
        have x4 : (fs[i + 1] == fs[i]) = false := by rw [beq_eq_false_iff_ne]; intro e; rw [e] at hlt2; exact List.lt_irrefl _ hlt2
        have hmz : (List.toArray ms).size ≤ sizeLine := by
          rw [List.size_toArray, sizeLine_eq, hms.length]
          exact Nat.le_trans (List.length_filter_le _ _) (Nat.le_trans (List.length_take_le' i fs) (Nat.le_trans hn (by decide)))
        k_steps
        rename Fr _ _ _ _ => FF
        rename News _ _ _ _ => NN
        apply Mine.whileInv (h₀ := g) (rest := _) (fun _ : Unit => []) (fun _ => []) [] (fun _ => True) (fun _ => 0) ()
        ((case hE => passes_own); (case F => k_asm); (case hps => walk_at "M ps"))
        case N => exact NN
        case hI => trivial
        case turn =>
          rintro _ u2 h2 tk2 - F2 N2
          dsimp only [List.cons_append, List.nil_append] at N2
          dsimp only [loopM, kstB] at F2
          clear FF NN
          k_steps
          rename Fr _ _ _ _ => FF
          rename News _ _ _ _ => NN
          have hJ1 : (manyOf cnt (fs.take (i + 1))).length = (manyOf cnt (fs.take i)).length := by rw [many_next hil, h0]; rfl
          have hI1 : (i : Int) + 1 = ((i + 1 : Nat) : Int) := rfl
          dsimp +zetaDelta only at FF
          rw [← hJ1, hI1] at FF
          rw [List.push_toArray] at NN
          apply Mine.turnEnd (⟨ms ++ [.str fs[i] ?ta1], cc + 1, i + 1, ?tb1, ?tc1⟩)
          ((case fr | nw => k_asm); (case own' | led => walk_at "M sub"); (case hps => walk_at "M ps"); (case off => walk_at "M off"))
          refine ⟨⟨?_, hi1⟩, by dsimp only; lia⟩
          rw [List.take_succ_eq_append_getElem hil, List.filter_append]
          refine strs_app hms ?_
          rw [List.filter_cons_of_pos (by simpa using h0)]
          exact .cons _ _ .nil
      · have hself : ¬ fs[i].cps.toList < fs[i].cps.toList := List.lt_irrefl _
        have x2 : AtS (manyOf cnt fs) ((manyOf cnt (fs.take i)).length : Int) fs[i] := .of _ rfl (Nat.lt_trans hJ hmx) (many_at (cnt := cnt) (fs := fs) (k := i) (t := 0) hil (Nat.pos_of_ne_zero h0))
        have hlen2 := many_next (cnt := cnt) hil
        have hle2 := many_le (cnt := cnt) (fs := fs) (i + 1)
        have hb2 : (manyOf cnt (fs.take i)).length + cnt fs[i] ≤ 1000000 := Nat.le_trans (Nat.le_of_eq hlen2.symm) (Nat.le_trans hle2 (Nat.le_of_lt hmx))
        k_steps
        rename Fr _ _ _ _ => FF
        rename News _ _ _ _ => NN
        apply Mine.whileInv (h₀ := g) (rest := _) (fun _ : Unit => []) (fun _ => []) [] (fun _ => True) (fun _ => 0) ()
        ((case hE => passes_own); (case F => k_asm); (case hps => walk_at "M ps"))
        case N => exact NN
        case hI => trivial
        case turn =>
          rintro _ u2 h2 tk2 - F2 N2
          dsimp only [List.cons_append, List.nil_append] at N2
          dsimp only [loopM, kstB] at F2
          clear FF NN
          by_cases hi1 : i + 1 < fs.length
          case neg =>
            have hin : i + 1 = fs.length := Nat.le_antisymm hil (Nat.le_of_not_lt hi1)
            have hall : (manyOf cnt (fs.take (i + 1))).length = (manyOf cnt fs).length := by rw [List.take_of_length_le (Nat.le_of_eq hin.symm)]
            iterate 4 walk_at "M w"
            rename Fr _ _ _ _ => FF
            rename News _ _ _ _ => NN
            refine Mine.item_out rfl (Fr.lst FF gl) hi (.of (i + 1) rfl (Nat.le_of_eq hin.symm) (Nat.lt_of_le_of_lt (Nat.le_of_eq hin) hix)) ?_
            intro h9 tk9 e9 hx9
            refine Mine.raisedOf (new := [(M, PySem.W.listOf (List.toArray ms) cc), (U, PySem.W.listOf (List.toArray []) 0)]) hx9 FF NN ?_ hLd rfl rfl ?_ rfl ?_ ?_
            · exact Mine.fm2 (Nat.ne_of_gt lC) (Nat.ne_of_gt lE.2)
            · show cs.kind ≠ .module
              rw [hk]; decide
            · passes_own
            · intro h4 sl4 o9 vs9 F4 N4 d9 c9 he9
              dsimp only [List.cons_append, List.nil_append] at N4
              clear FF NN
              k_steps
              rename Fr _ _ _ _ => FF
              rename News _ _ _ _ => NN
              apply Mine.whileInv (h₀ := g) (rest := _) (fun _ : Nat × Tok => []) (fun c => [(Str.ofString "j", .int (((manyOf cnt (fs.take i)).length : Int) + (c.1 : Int)) c.2)]) [Str.ofString "j"] (fun c => 1 ≤ c.1 ∧ c.1 ≤ cnt fs[i]) (fun c => cnt fs[i] - c.1) ⟨1, _⟩
              ((case hE => passes_own); (case F => k_asm); (case hps => walk_at "M ps"))
              case N => exact NN
              case hI => exact ⟨Nat.le_refl _, Nat.pos_of_ne_zero h0⟩
              case turn =>
                refine Mine.all_2 ?_; intro t tj2 u3 h3 tk3 hJ0 F3 N3
                obtain ⟨ht1, ht2⟩ := hJ0
                dsimp only [List.cons_append, List.nil_append] at N3
                dsimp only [loopM, kstB] at F3 ht1 ht2
                clear FF NN
                by_cases htc : t < cnt fs[i]
                · have x5 : AtS (manyOf cnt fs) (((manyOf cnt (fs.take i)).length : Int) + (t : Int)) fs[i] := .of _ (Int.natCast_add _ _).symm (Nat.lt_of_lt_of_le (Nat.add_lt_add_left htc _) hb2) (many_at (cnt := cnt) (fs := fs) (k := i) (t := t) hil htc)
                  have xe : (fs[i] == fs[i]) = true := beq_self_eq_true _
                  k_steps
                  rename Fr _ _ _ _ => FF
                  rename News _ _ _ _ => NN
                  have hT1 : ((manyOf cnt (fs.take i)).length : Int) + (t : Int) + 1 = ((manyOf cnt (fs.take i)).length : Int) + ((t + 1 : Nat) : Int) := Int.add_assoc _ _ _
                  dsimp +zetaDelta only at FF
                  rw [hT1] at FF
                  apply Mine.turnEnd (⟨t + 1, ?tu2⟩)
                  ((case fr | nw => k_asm); (case own' | led => walk_at "M sub"); (case hps => walk_at "M ps"); (case off => walk_at "M off"))
                  exact ⟨⟨Nat.le_succ_of_le ht1, htc⟩, by dsimp only; lia⟩
                · have hte : t = cnt fs[i] := Nat.le_antisymm ht2 (Nat.le_of_not_lt htc)
                  subst hte
                  have hJ1 : ((manyOf cnt (fs.take i)).length : Int) + (cnt fs[i] : Int) = ((manyOf cnt (fs.take (i + 1))).length : Int) := by rw [hlen2]; exact (Int.natCast_add _ _).symm
                  rw [hJ1] at F3
                  have hJ2 : ¬ (manyOf cnt (fs.take (i + 1))).length < (manyOf cnt fs).length := by rw [hall]; exact Nat.lt_irrefl _
                  iterate 4 walk_at "M w"
                  rename Fr _ _ _ _ => FF
                  rename News _ _ _ _ => NN
                  refine Mine.item_outH rfl (NN _ (.head _)).1 d9 c9 (Fr.lst FF gl2) hi2 (.of _ rfl (Nat.le_of_not_lt hJ2) (Nat.lt_of_le_of_lt hle2 hmx)) ?_
                  intro hB9 tkB9 eB9 hxA
                  have hms2 : StrsAre ms ((fs.take (i + 1)).filter fun f => decide (cnt f = 0)) := by
                    rw [List.take_succ_eq_append_getElem hil, List.filter_append, List.filter_cons_of_neg (by simpa using h0), List.filter_nil, List.append_nil]
                    exact hms
                  refine Mine.caughtOf (new := [(e9, o9), (M, PySem.W.listOf (List.toArray ms) cc), (U, PySem.W.listOf (List.toArray []) 0)]) hxA FF NN ?_ hLd X' T' rfl rfl ?_ rfl ?_ rfl ?_ ?_
                  · exact Mine.fm3 (he9) (Nat.ne_of_gt lC) (Nat.ne_of_gt lE.2)
                  · show cs.kind ≠ .module
                    rw [hk]; decide
                  · k_is
                  · passes_own
                  · intro h8 sl8 F8 N8
                    replace N8 : News g L' h8 [(M, PySem.W.listOf (List.toArray ms) cc), (U, PySem.W.listOf (List.toArray []) 0), (L, { oL with slots := sl8 })] := fun p hp => N8 p (.tail _ hp)
                    clear FF NN
                    k_steps
                    rename Fr _ _ _ _ => FF
                    rename News _ _ _ _ => NN
                    rw [pick_tail vs _ (by lia)] at NN
                    have nu : U ≠ M := Nat.ne_of_gt lE.1
                    have nm : L ≠ M := Nat.ne_of_lt lC
                    have nl : L ≠ U := Nat.ne_of_lt lE.2
                    refine Mine.extend_any (D := M) (xs := ms) (n := cc) (ys := vs.drop (i + 1)) FF (news_swap NN) ?_ (.head _) ?_ ?_
                    · exact Mine.fm3 (Nat.ne_of_gt (Nat.lt_succ_of_lt (Heap.lt_size (N8 _ (.head _)).1))) (nu) (nm)
                    · exact Mine.ext_room _ hn hms2 hi
                    intro h7 n7 F7 N7
                    clear FF NN
                    k_steps
                    rename Fr _ _ _ _ => FF
                    rename News _ _ _ _ => NN
                    rw [pick_tail us _ (by lia), List.drop_of_length_le (by rw [hi2.length]; exact Mine.le_toNat (by first | assumption | lia))] at NN
                    refine Mine.extend_any (D := U) (xs := []) (n := 0) (ys := []) FF (news_4th NN) ?_ (.head _) (by decide) ?_
                    · exact Mine.fm4 (Nat.ne_of_gt (Nat.lt_succ_of_lt (Heap.lt_size (N7 _ (.tail _ (.tail _ (.head _)))).1))) (nu.symm) (Nat.ne_of_gt (Nat.lt_succ_of_lt (Heap.lt_size (N8 _ (.tail _ (.head _))).1))) (nl)
                    intro h6 n6 F6 N6
                    clear FF NN
                    k_steps
                    (first | (with_reducible refine (?_ : TurnPost _ _ _ _ _ _ _ _ _ _ _ _)) | skip); dsimp only [TurnPost]
                    k_steps
                    rename Fr _ _ _ _ => FF
                    rename News _ _ _ _ => NN
                    obtain ⟨es9, ep9, hLd9⟩ := hLd
                    have non : ∀ b, g.get? b = none → b ≠ L → s.heap.get? b = none := fun b e1 e2 => by
                      cases e3 : s.heap.get? b with
                      | none => rfl
                      | some o => rw [kg b o e3 e2] at e1; cases e1
                    have nR := NN _ (.head _)
                    have nU := NN _ (.tail _ (.head _))
                    have nM := NN _ (.tail _ (.tail _ (.tail _ (.head _))))
                    have nL := NN _ (.tail _ (.tail _ (.tail _ (.tail _ (.tail _ (.head _))))))
                    refine hret _ M U _ n7 _ _ (by have := strs_app hms2 (strs_drop (i + 1) hi); rw [left_all hJ2] at this; exact this) (fun b o hb e => FF.keep b o (kg b o e hb)) (fun oL2 e => ?_) (non _ nR.2.2 (news_ned NN (.head _) (.tail _ (.tail _ (.tail _ (.tail _ (.tail _ (.head _)))))) (by show Data.seq _ _ ≠ oL.data; rw [hLd9]; intro q; cases q))) (non _ nM.2.2 nm.symm) (non _ nU.2.2 nl.symm) nR.1 nM.1 ⟨n6, nU.1⟩
                    rw [hL] at e
                    cases e
                    exact ⟨sl8, nL.1⟩
          case pos =>
            have hlt2 := rise_next hs hi1
            have x3 : AtS fs ((i : Int) + 1) fs[i + 1] := .of (i + 1) rfl (Nat.lt_trans hi1 hix) (List.getElem?_eq_getElem hi1)
            have x4 : (fs[i + 1] == fs[i]) = false := by rw [beq_eq_false_iff_ne]; intro e; rw [e] at hlt2; exact List.lt_irrefl _ hlt2
            k_steps
            rename Fr _ _ _ _ => FF
            rename News _ _ _ _ => NN
            apply Mine.whileInv (h₀ := g) (rest := _) (fun _ : Nat × Tok => []) (fun c => [(Str.ofString "j", .int (((manyOf cnt (fs.take i)).length : Int) + (c.1 : Int)) c.2)]) [Str.ofString "j"] (fun c => 1 ≤ c.1 ∧ c.1 ≤ cnt fs[i]) (fun c => cnt fs[i] - c.1) ⟨1, _⟩
            ((case hE => passes_own); (case F => k_asm); (case hps => walk_at "M ps"))
            case N => exact NN
            case hI => exact ⟨Nat.le_refl _, Nat.pos_of_ne_zero h0⟩
            case turn =>
              refine Mine.all_2 ?_; intro t tj2 u3 h3 tk3 hJ0 F3 N3
              obtain ⟨ht1, ht2⟩ := hJ0
              dsimp only [List.cons_append, List.nil_append] at N3
              dsimp only [loopM, kstB] at F3 ht1 ht2
              clear FF NN
              by_cases htc : t < cnt fs[i]
              · have x5 : AtS (manyOf cnt fs) (((manyOf cnt (fs.take i)).length : Int) + (t : Int)) fs[i] := .of _ (Int.natCast_add _ _).symm (Nat.lt_of_lt_of_le (Nat.add_lt_add_left htc _) hb2) (many_at (cnt := cnt) (fs := fs) (k := i) (t := t) hil htc)
                have xe : (fs[i] == fs[i]) = true := beq_self_eq_true _
                k_steps
                rename Fr _ _ _ _ => FF
                rename News _ _ _ _ => NN
                have hT1 : ((manyOf cnt (fs.take i)).length : Int) + (t : Int) + 1 = ((manyOf cnt (fs.take i)).length : Int) + ((t + 1 : Nat) : Int) := Int.add_assoc _ _ _
                dsimp +zetaDelta only at FF
                rw [hT1] at FF
                apply Mine.turnEnd (⟨t + 1, ?tu1⟩)
                ((case fr | nw => k_asm); (case own' | led => walk_at "M sub"); (case hps => walk_at "M ps"); (case off => walk_at "M off"))
                exact ⟨⟨Nat.le_succ_of_le ht1, htc⟩, by dsimp only; lia⟩
              · have hte : t = cnt fs[i] := Nat.le_antisymm ht2 (Nat.le_of_not_lt htc)
                subst hte
                have hJ1 : ((manyOf cnt (fs.take i)).length : Int) + (cnt fs[i] : Int) = ((manyOf cnt (fs.take (i + 1))).length : Int) := by rw [hlen2]; exact (Int.natCast_add _ _).symm
                rw [hJ1] at F3
                by_cases hJ2 : (manyOf cnt (fs.take (i + 1))).length < (manyOf cnt fs).length
                · obtain ⟨x, hx, hxm, hx0⟩ := many_here hJ2
                  have hlt := rise_later hs hil hxm
                  have x5 : AtS (manyOf cnt fs) ((manyOf cnt (fs.take (i + 1))).length : Int) x := .of _ rfl (Nat.lt_trans hJ2 hmx) hx
                  have x6 : (x == fs[i]) = false := by rw [beq_eq_false_iff_ne]; intro e; rw [e] at hlt; exact List.lt_irrefl _ hlt
                  k_steps
                  rename Fr _ _ _ _ => FF
                  rename News _ _ _ _ => NN
                  have hI1 : (i : Int) + 1 = ((i + 1 : Nat) : Int) := rfl
                  dsimp +zetaDelta only at FF
                  rw [hI1] at FF
                  apply Mine.turnEnd (⟨ms, cc, i + 1, ?tb2, ?tc2⟩)
                  ((case fr | nw => k_asm); (case own' | led => walk_at "M sub"); (case hps => walk_at "M ps"); (case off => walk_at "M off"))
                  refine ⟨⟨?_, hi1⟩, by dsimp only; lia⟩
                  rw [List.take_succ_eq_append_getElem hil, List.filter_append, List.filter_cons_of_neg (by simpa using h0), List.filter_nil, List.append_nil]
                  exact hms
                · repeat (first | (fail_if_success (with_reducible show wpAny _ _ (subscriptTail _ _ (Value.ref _) (Value.int _ _)) _ _ _)); first | (k_unfold; (try dsimp only)) | walk_at "M w" | (dsimp only; walk_at "M w") | (leave1; (try dsimp only)))
                  rename Fr _ _ _ _ => FF
                  rename News _ _ _ _ => NN
                  refine Mine.item_out rfl (Fr.lst FF gl2) hi2 (.of _ rfl (Nat.le_of_not_lt hJ2) (Nat.lt_of_le_of_lt hle2 hmx)) ?_
                  intro h9 tk9 e9 hx9
                  refine Mine.pass1 (by passes_own) ?_
                  have hms2 : StrsAre ms ((fs.take (i + 1)).filter fun f => decide (cnt f = 0)) := by
                    rw [List.take_succ_eq_append_getElem hil, List.filter_append, List.filter_cons_of_neg (by simpa using h0), List.filter_nil, List.append_nil]
                    exact hms
                  refine Mine.caughtOf (new := [(M, PySem.W.listOf (List.toArray ms) cc), (U, PySem.W.listOf (List.toArray []) 0)]) hx9.of FF NN ?_ hLd X' T' rfl rfl ?_ rfl ?_ rfl ?_ ?_
                  · exact Mine.fm2 (Nat.ne_of_gt lC) (Nat.ne_of_gt lE.2)
                  · show cs.kind ≠ .module
                    rw [hk]; decide
                  · k_is
                  · passes_own
                  · intro h8 sl8 F8 N8
                    dsimp only [List.cons_append, List.nil_append] at N8
                    clear FF NN
                    iterate 17 walk_at "M w"
                    rename Fr _ _ _ _ => FF
                    rename News _ _ _ _ => NN
                    rw [pick_tail vs _ (by lia)] at NN
                    have nu : U ≠ M := Nat.ne_of_gt lE.1
                    have nm : L ≠ M := Nat.ne_of_lt lC
                    have nl : L ≠ U := Nat.ne_of_lt lE.2
                    refine Mine.extend_any (D := M) (xs := ms) (n := cc) (ys := vs.drop (i + 1)) FF (news_swap NN) ?_ (.head _) ?_ ?_
                    · exact Mine.fm3 (Nat.ne_of_gt (Nat.lt_succ_of_lt (Heap.lt_size (N8 _ (.head _)).1))) (nu) (nm)
                    · exact Mine.ext_room _ hn hms2 hi
                    intro h7 n7 F7 N7
                    clear FF NN
                    k_steps
                    rename Fr _ _ _ _ => FF
                    rename News _ _ _ _ => NN
                    rw [pick_tail us _ (by lia), List.drop_of_length_le (by rw [hi2.length]; exact Mine.le_toNat (by first | assumption | lia))] at NN
                    refine Mine.extend_any (D := U) (xs := []) (n := 0) (ys := []) FF (news_4th NN) ?_ (.head _) (by decide) ?_
                    · exact Mine.fm4 (Nat.ne_of_gt (Nat.lt_succ_of_lt (Heap.lt_size (N7 _ (.tail _ (.tail _ (.head _)))).1))) (nu.symm) (Nat.ne_of_gt (Nat.lt_succ_of_lt (Heap.lt_size (N8 _ (.tail _ (.head _))).1))) (nl)
                    intro h6 n6 F6 N6
                    clear FF NN
                    k_steps
                    (first | (with_reducible refine (?_ : TurnPost _ _ _ _ _ _ _ _ _ _ _ _)) | skip); dsimp only [TurnPost]
                    k_steps
                    rename Fr _ _ _ _ => FF
                    rename News _ _ _ _ => NN
                    obtain ⟨es9, ep9, hLd9⟩ := hLd
                    have non : ∀ b, g.get? b = none → b ≠ L → s.heap.get? b = none := fun b e1 e2 => by
                      cases e3 : s.heap.get? b with
                      | none => rfl
                      | some o => rw [kg b o e3 e2] at e1; cases e1
                    have nR := NN _ (.head _)
                    have nU := NN _ (.tail _ (.head _))
                    have nM := NN _ (.tail _ (.tail _ (.tail _ (.head _))))
                    have nL := NN _ (.tail _ (.tail _ (.tail _ (.tail _ (.tail _ (.head _))))))
                    refine hret _ M U _ n7 _ _ (by have := strs_app hms2 (strs_drop (i + 1) hi); rw [left_all hJ2] at this; exact this) (fun b o hb e => FF.keep b o (kg b o e hb)) (fun oL2 e => ?_) (non _ nR.2.2 (news_ned NN (.head _) (.tail _ (.tail _ (.tail _ (.tail _ (.tail _ (.head _)))))) (by show Data.seq _ _ ≠ oL.data; rw [hLd9]; intro q; cases q))) (non _ nM.2.2 nm.symm) (non _ nU.2.2 nl.symm) nR.1 nM.1 ⟨n6, nU.1⟩
                    rw [hL] at e
                    cases e
                    exact ⟨sl8, nL.1⟩
end
section
section
variable {prog : Program} {w : World} {A A₀ : Around} {s : Shared} {K : Frag} {L : Addr} {h₀ base : Heap} {m mg mb : Str → Option Value} {p : Program} {loose : List Str} {mean : ExcName → Option Value} {news : List (Addr × Obj)}
/-- a call of a def of the text; the caller's ledger is handed on to the callee's -/
theorem enterN {env : Env} {outer : List Env} {R : Result → Shared → Prop} {name qual : Str} {params : Arguments} {body : List Stmt} {scope : Scope} {dV kV doc pm cdv ct oc : Value} {an od : Option Addr} {osl : Array (Option Value)} {f : Addr} {args : Args} {binds : List (Str × Value)}
    (N : News h₀ L s.heap news)
    (B : Below A₀ base outer h₀) (F : Fr h₀ L s.heap m) (X₀ : K.In h₀) (T : Top p loose mean mg mb h₀) (hA : A.frames = some (env :: outer)) (hf : env.frame = some L) (hke : env.scope.kind = .function)
    (ho : K.lookup f = some ⟨oc, od, .func (fnOf name qual params body scope dV kV doc pm an cdv ct), osl⟩) (hcd : codeIn K cdv qual = true) (hroom : A.depth < recursionLimit)
    (hbind : BindsTo s (fnOf name qual params body scope dV kV doc pm an cdv ct) args binds) (hloc : ∀ y ∈ binds, scope.names.lookup y.1 = some .local)
    (h : ∀ L' h₁ g, (∀ b o, s.heap.get? b = some o → b ∉ news.map (·.1) → g.get? b = some o) → Fr g L' h₁ (fun y => binds.reverse.lookup y) → News g L' h₁ news → Below A base (env :: outer) g → K.In g → Top p loose mean mg mb g → (∀ b, s.heap.get? b = none → g.get? b = none) →
      wpAny (model prog w) (A.deeper (envOf qual scope L' f cdv)) (execs body (envOf qual scope L' f cdv))
        (fun fl s' => R (.ok (.ret (match fl with | .ret v => v | _ => .none))) s')
        (fun e s' => wpAny (model prog w) (A.deeper (envOf qual scope L' f cdv)) (leaving (envOf qual scope L' f cdv) e) (fun _ s'' => R (.error e) s'') (fun e' s'' => R (.error e') s'') s')
        { s with heap := h₁, toks := s.toks + binds.length })
    (hco : scope.isCoroutine = false) (hgen : scope.isGenerator = false) (hk : scope.kind = .function)
    (hcell : ∀ x ∈ scope.names, x.2 ≠ .cell) : codeAny (model prog w) A (.call (.ref f) args) R s := by
  obtain ⟨FG, BG, st, lv⟩ := groundX (R := R) (news := news) B F N hA hf hke
  refine codeAny_call_def (fd := fnX name qual params body scope [] dV kV doc pm an cdv ct) (body := body) (binds := binds) hroom ((X₀.keeps F.keep) _ _ ho) rfl (T.nolimit.keeps F.keep) (codeRec_of (X₀.keeps F.keep) hcd) rfl hbind hcell hloc (fun h₁ hns hk₁ => ?_) hco hgen hk
  refine h s.heap.objs.size h₁ _ (fun b o e hb => hideAll_get _ e hb) ⟨hns, fun b o e => hk₁ b o (of_hideAll _ e), Nat.le_of_eq (hideAll_size _ _)⟩ (fun q hq => ?_) BG (X₀.keeps st) (T.keeps st) (fun b e => ?_)
  · exact ⟨hk₁ _ _ (N _ hq).1, Nat.ne_of_lt (Heap.lt_size (N _ hq).1), hideAll_none _ (List.mem_map_of_mem hq)⟩
  · cases q : (hideAll s.heap (news.map (·.1))).get? b with
    | none => rfl
    | some o => rw [of_hideAll _ q] at e; cases e
end
theorem gone_of {s g : Heap} {l : List Addr} (kg : ∀ b o, s.get? b = some o → b ∉ l → g.get? b = some o) {b : Addr} (hb : b ∉ l) (hg : g.get? b = none) : s.get? b = none := by
  cases e : s.get? b with
  | none => rfl
  | some o => rw [kg b o e hb] at hg; cases hg
noncomputable abbrev tupOf' (its : Array Value) : Obj := { cls := .type "tuple", data := .seq its }
local macro_rules | `(tactic| k_ne) => `(tactic| ((try dsimp only); first | assumption | (refine Ne.symm ?_; assumption)))
local macro_rules | `(tactic| walk_at "getMethod ref") => `(tactic| walk_at "M stop")
local macro_rules | `(tactic| walk_at "call builtin:list.append") => `(tactic| walk_at "M stop")
theorem pushCc {w : World} {p : Program} {loose : List Str} {mean : ExcName → Option Value} {mg mb : Str → Option Value} (x dx : Addr) (its : Array Value) (n : Nat) (od : Obj) (f1 f2 : Str) (t1 t2 : Tok)
    (dp un : Nat) (gd : Option (List Code)) (cn : Str) (cs : Scope) (a : Addr) (ccd : Value) (cl : List (Str × Addr)) (outer : List Env) (A₀ : Around) (base h₀ : Heap) (L : Addr) (m : Str → Option Value) (s : Shared) (Q E : Value → Shared → Prop)
    (N : News h₀ L s.heap [(x, accObj dx its n), (dx, od)]) (hxd : x ≠ dx) (hcd : od.cls = .type "dict") (ho : lookIn "append" od = some none) (hz : its.size ≤ 100)
    (B : Below A₀ base outer h₀) (F : Fr h₀ L s.heap m) (X : (Mine.hd.heap_1 w.params).In h₀) (T : Top p loose mean mg mb h₀) (hk : cs.kind = .function) (hd : dp + 8 < recursionLimit) (hu : un + 200 < cLine)
    (hret : ∀ ta h' tk', (∀ b o, b ≠ x → s.heap.get? b = some o → h'.get? b = some o) → h'.get? x = some (accObj dx (its.push (.ref ta)) (n + 1)) → s.heap.get? ta = none → h'.get? ta = some (tupOf' #[.str f1 t1, .str f2 t2]) → Q .none { s with heap := h', toks := tk' }) :
    codeAny (model PySem.Challenge.rw_ik0127_01.row.prog w) (ktrTop dp un gd cn cs L a ccd cl outer) (.call (.ref 139) ⟨[.ref x, .str f1 t1, .str f2 t2], []⟩) (fun r s' => match r with | .ok (.ret v) => Q v s' | .ok _ => False | .error e => E e s') s := by
  revert X T; k_fill; intro X T
  have hzz : its.size ≤ sizeLine := by rw [sizeLine_eq]; omega
  k_dflt (refine' Mine.enterN ?kN ?k1 ?k2 ?k3 ?k5 ?kA ?kF ?kK ?k6 ?k7 ?k8 ?k9 ?kB ?_ ?c2 ?c3 ?c4 ?c5; (case kA | kF => exact rfl); (case kK | kN => assumption); (case k1 | k2 | k3 | k5 => k_asm); (case k6 | k7 => k_is); (case k8 => ktr_room); (case k9 => exact BindsTo.of_eq rfl); (case c5 => decide); (case kB => exact locs rfl); (case c2 | c3 | c4 => exact rfl); k_whole; intro _ _ _ _ _ _ _ _ _ _; (try dsimp only); (try k_fold))
  rename_i L' h' g' kg' F' N' B' X' T' kn'
  k_steps
  k_dflt (refine' Mine.gm_acc ?gX ?gN ?gx ?gdx ?g1 ?gcan ?g2 ?g3 ?gt ?gtf ?go ?_; (case gX => k_in); (case gN => k_asm); (case gx | gdx => k_mem); (case g1 => exact rfl); (case gcan => decide +kernel); (case g2 => exact rfl); (case g3 => exact (rfl : _ = some (some (Value.builtin "list.append")))); (case gt => first | exact Looks.of_pure PySem.F.type_list_append | exact Looks.of_pure (by rw [builtinType_eq_fast]; kernel_rfl)); (case gtf => rfl); (case go => assumption); k_whole)
  k_steps
  k_dflt (refine' Mine.append_acc ?gX1 ?gF ?gN1 ?gdx1 ?gU ?gm ?_ ?gz; (case gX1 => k_in); (case gF | gN1 => k_asm); (case gU => k_upd); (case gdx1 => k_mem); (case gm => exact rfl); (case gz => with_reducible assumption); k_whole); intro _ _ _
  k_steps
  rename Fr _ _ _ _ => FF
  rename News _ _ _ _ => NN
  have nT := NN _ (.head _)
  have nX := NN _ (.tail _ (.head _))
  have nD := NN _ (.tail _ (.tail _ (.head _)))
  have ne1 : _ ≠ x := news_ne NN (.head _) (.tail _ (.head _)) (by intro e; cases e)
  refine hret _ _ _ (fun b o hb e => ?_) nX.1 ?_ nT.1
  · by_cases hb2 : b = dx
    · rw [hb2] at e ⊢
      have := (N _ (.tail _ (.head _))).1
      simp only at this
      rw [e] at this
      rw [Option.some.inj this]
      exact nD.1
    · exact FF.keep b o (kg' b o e (by simp only [List.map_cons, List.map_nil, List.mem_cons, List.not_mem_nil, or_false]; rintro (h | h); exact hb h; exact hb2 h))
  · have ne2 := news_ne NN (.head _) (.tail _ (.tail _ (.head _))) (by intro e; rw [hcd] at e; exact absurd (Value.type.inj e) (by decide))
    exact gone_of kg' (by simp only [List.map_cons, List.map_nil, List.mem_cons, List.not_mem_nil, or_false]; rintro (h | h); exact ne1 h; exact ne2 h) nT.2.2
end
section
section
variable {prog : Program} {w : World} {A : Around} {E : Value → Shared → Prop} {s : Shared}
/-- sum with the start 0 -/
theorem sum_from0 {x : Value} {u : Tok} {Q : Value → Shared → Prop}
    (h : wpAny (model prog w) A.in1 (pyIter x) (fun it s₂ => ∃ I fp wr G n P St val, it = .ref I ∧ WalksS prog w A.in1 I fp wr G n P St ∧ St 0 s₂ ∧ (∀ b ∈ fp, b < s₂.heap.objs.size) ∧
      (∀ i v, P i v → ∃ t, v = .int (val i) t) ∧ (∀ j, j < n → InLong (val j) ∧ InLong (preSum val (j + 1))) ∧
      ∀ s' t', Moved wr G s₂ s' → Q (.int (preSum val n) t') s') E s) :
    wpAny (model prog w) A (call (.builtin "sum") [x, .int 0 u]) Q E s := by
  have hargs : argsOk "sum" ⟨[x, .int 0 u], []⟩ := by unfold argsOk; kernel_rfl
  refine call_function_tree F.kind_sum F.plain_sum F.entry_sum hargs ?_
  unfold Builtin.«sum»
  simp -iota only [List.length_cons, List.length_nil]
  rw [if_neg (by decide)]
  refine wpAny_bind (wpAny_of_eq (show Builtin.Builtins.bindParams "sum" ["start"] 0 ⟨[.int 0 u], []⟩ = pure [some (.int 0 u)] from rfl) ?_)
  refine wpAny_bind (wpAny_mono h (fun it s₂ h₂ => ?_) fun _ _ e => e)
  obtain ⟨I, fp, wr, G, n, P, St, val, rfl, W, hst, hfp, hval, hfit, hQ⟩ := h₂
  dsimp only
  rw [if_pos (by decide)]
  refine wpAny_bind (wpAny_rule (wpAny_bind (wpAny_mkInt (wpAny_bind (wpAny_pure ?_)))))
  simp -iota only [List.forIn_cons, List.forIn_nil]
  refine wpAny_bind (wpAny_bind (wpAny_bind (wpAny_isInstance (T := "int") (b := false) (typeIs_int _ _ _) PySem.sub_int_str ?_)))
  simp -iota only [Bool.false_eq_true, if_false]
  refine wpAny_pure (wpAny_bind (wpAny_bind (wpAny_isInstance (T := "int") (b := false) (typeIs_int _ _ _) PySem.sub_int_bytes ?_)))
  simp -iota only [Bool.false_eq_true, if_false]
  refine wpAny_pure (wpAny_bind (wpAny_bind (wpAny_isInstance (T := "int") (b := false) (typeIs_int _ _ _) PySem.sub_int_bytearray ?_)))
  simp -iota only [Bool.false_eq_true, if_false]
  refine wpAny_pure (wpAny_pure ?_)
  refine wpAny_bind (wpAny_newObj_type ?_)
  have hSf : s₂.heap.objs.size ∉ fp := fun hm => Nat.lt_irrefl _ (hfp _ hm)
  refine wpAny_pure ⟨plainId_quiet F.plain_sum_loop _, codeAny_sum_loopS W val hval hfit s₂.heap.objs.size hSf n 0 _ s₂.toks 0 rfl (Nat.zero_le _)
    (W.frame 0 s₂ _ _ hst (by first | exact Nat.le_refl _ | exact Nat.le_succ _ | omega) fun b _ o e => Heap.get?_push_of_some _ e) (Heap.get?_push_size _ rfl) fun s' t' hm => ?_⟩
  exact hQ s' t' (hm.drop_new (by first | exact Nat.le_refl _ | exact Nat.le_succ _ | omega))
end
end
section
/-- the table of nested codes of a def whose one nested code is a generator expression: before and after it was made -/
noncomputable def tabG (ln cn : Nat) (tb : Option Addr) : Array Value := match tb with
  | none => #[]
  | some c => #[rawInt ln, rawInt cn, .ref c]
section
variable {M : Model} {A : Around} {E : Value → Shared → Prop} {s : Shared} {c P : Addr} {env : Env} {pos : Pos} {qualname : Str} {scope : Scope} {tb : Option Addr}
theorem code_gen {Q : Value → Shared → Prop} (hcode : env.code = .ref c) (C : CodeHd s.heap c P) (hP : s.heap.get? P = some (tabObj (tabG pos.line pos.col tb)))
    (h : ∀ c' h' tk, (∀ b o, b ≠ P → s.heap.get? b = some o → h'.get? b = some o) → h'.get? P = some (tabObj (tabG pos.line pos.col (some c'))) → s.heap.objs.size ≤ h'.objs.size → Q (.ref c') { s with heap := h', toks := tk }) :
    wpAny M A (genexprCode env pos qualname scope) Q E s := by
  cases tb with
  | none =>
    refine wpAny_genexprCodeX hcode (C.code hP trivial) (C.tab hP) rfl fun c' h' tk hx hge hlt _ _ ht _ => ?_
    exact h c' h' tk hx ht.2 (Nat.le_trans hge (Nat.le_of_lt hlt))
  | some c' =>
    obtain ⟨o, vs, file, tf, flags, tg, inF, text, tt, e1, _, e3, _, f3, _⟩ := C
    delta genexprCode codeAt
    rw [hcode, if_neg (show ¬ ((Value.ref c == Value.none) = true) from Bool.false_ne_true)]
    refine wpAny_bind (wpAny_fieldsOf e1 e3 ?_)
    rw [f3]
    refine wpAny_bind (wpAny_fieldsOf hP rfl ?_)
    have hf : codeAmong pos (tabG pos.line pos.col (some c')).toList = some (.ref c') := by simp [tabG, codeAmong, rawInt]
    rw [hf]
    exact wpAny_pure (h c' s.heap s.toks (fun _ _ _ e => e) hP (Nat.le_refl _))
end
section
variable {prog : Program} {w : World} {A : Around} {E : Value → Shared → Prop} {s : Shared} {K : Frag} {c P x : Addr} {dx : Addr} {its : Array Value} {n : Nat} {od : Obj} {mg : Str → Option Value} {env : Env} {pos : Pos} {scope : Scope} {tb : Option Addr}
theorem gen_pairs {elt iter : Expr} {xa xb : Str} {pa pb pt : Pos} {kt : Nat} {cl : List (Str × Addr)} {Q : Value → Shared → Prop} (Ts : Nat → Addr) (va vb : Nat → Value) (Fj : Nat → Value → Prop)
    (heval : ∀ Q E, Q (.ref x) s → wpAny (model prog w) A (eval iter env) Q E s) (hh : A.handled = none) (hglob : env.globals = mainGlobals)
    (X : K.In s.heap) (I : InstAt s.heap x (accObj dx its n) 195 (some od)) (h1 : findIn K (.ref 195) "__iter__" = some (some (.builtin "list.__iter__"))) (hm : mroIn K 195 (.type "list") = some true)
    (hit : ∀ j, j < its.size → its[j]? = some (.ref (Ts j))) (htup : ∀ j, j < its.size → s.heap.IsTuple (Ts j) #[va j, vb j])
    (hcode : env.code = .ref c) (C : CodeHd s.heap c P) (hP : s.heap.get? P = some (tabObj (tabG pos.line pos.col tb))) (hg : s.heap.Ns mainGlobals mg) (hb : s.heap.BuiltinsAt mg P) (hgP : mainGlobals ≠ P) (hlim : s.heap.NoLimit) (hbare : AllBare s.gens)
    (hco : scope.isCoroutine = false) (hclos : closureFor scope env = pure cl) (hcell : ∀ y ∈ scope.names, y.2 ≠ .cell) (h0 : scope.names.lookup (".0" : Str) = some NameKind.local)
    (hxa : scope.names.lookup xa = some .local) (hxb : scope.names.lookup xb = some .local) (hab : xa ≠ xb) (hkind : scope.kind = .function) (hroom : A.depth < recursionLimit) (hs : ∀ x, genFold iter env x = pure x)
    (helt : ∀ c' C (A' : Around) E' j (t : Shared) m₂, j < its.size → A'.handled = none → A'.depth ≤ A.depth + 1 → A'.units ≤ A.units + 8 → t.heap.Ns C m₂ → m₂ xa = some (va j) → m₂ xb = some (vb j) → (∀ b o, b ≠ P → s.heap.get? b = some o → t.heap.get? b = some o) →
      wpAny (model prog w) A' (eval elt (genEnv scope cl C (.ref c') builtinsNs env)) (fun y s₃ => Fj j y ∧ Keeps t s₃) E' t)
    (hQ : ∀ c' a h₅ tk gs', AllBare gs' → (∀ b o, b ≠ P → s.heap.get? b = some o → h₅.get? b = some o) → h₅.get? P = some (tabObj (tabG pos.line pos.col (some c'))) → s.heap.objs.size ≤ h₅.objs.size →
      Gen prog w A (s.heap.objs.size - 1) a its.size Fj { s with heap := h₅, toks := tk, gens := gs' } → Q (.ref a) { s with heap := h₅, toks := tk, gens := gs' }) :
    wpAny (model prog w) A (eval (.GeneratorExp elt [⟨.Tuple [.Name xa pa, .Name xb pb] kt pt, iter, [], 0⟩] scope pos) env) Q E s := by
  have hPlt : P < s.heap.objs.size := Heap.lt_size hP
  have hxlt : x < s.heap.objs.size := Heap.lt_size I.at_
  have hxP : x ≠ P := fun e => by
    have := I.at_
    rw [e, hP] at this
    cases this
  have hTP : ∀ j, j < its.size → Ts j ≠ P := fun j hj e => by
    obtain ⟨o, ho, hc, _⟩ := htup j hj
    rw [e, hP] at ho; cases ho; exact absurd hc (by simp)
  have hTlt : ∀ j, j < its.size → Ts j < s.heap.objs.size := fun j hj => by obtain ⟨o, ho, _⟩ := htup j hj; exact Heap.lt_size ho
  have hpos : 0 < s.heap.objs.size := Nat.lt_of_le_of_lt (Nat.zero_le _) hPlt
  have hcP : cStatics ≠ P := fun e => by
    obtain ⟨_, hns, _⟩ := hlim
    obtain ⟨o, es, ep, ho, hd, _⟩ := hns
    rw [e, hP] at ho; cases ho; cases hd
  have hclt : cStatics < s.heap.objs.size := let ⟨_, hn, _⟩ := hlim; hn.lt
  refine wpAny_GeneratorExp_walksQTD hh hco hclos hcell h0 hxa hxb hab hkind hroom (heval _ _ (iter_acc X I h1 hm ?_)) hs
  have up : ∀ b o, s.heap.get? b = some o → (s.heap.push { cls := .type "list_iterator", data := .fields #[.ref x, .int 0 0] }).get? b = some o := fun b o e => Heap.get?_push_of_some _ e
  refine ⟨hlim.push _, code_gen hcode (C.keeps up) (up _ _ hP) fun c' h₃ tk₃ hx₃ hP₃ hsz₃ => ?_⟩
  have hsz : s.heap.objs.size < h₃.objs.size := by
    have := hsz₃
    simp only [Heap.size_push] at this
    exact this
  have old : ∀ b o, b ≠ P → s.heap.get? b = some o → h₃.get? b = some o := fun b o hbP e => hx₃ b o hbP (up b o e)
  have hl₃ : h₃.NoLimit := (hlim.push _).extBut hx₃ hcP
  obtain ⟨bm, ob, hbm, hne0, _, hneP, hbo, hcls, hdict, hdata⟩ := hb
  have hg₃ : h₃.Ns mainGlobals mg := hg.at' fun o e => old _ o hgP e
  rw [hglob]
  refine wpAny_builtinsFor hg₃ hbm hne0 (old _ _ hneP hbo) hcls hdict hdata ?_
  have hIne : ∀ j, j < its.size → Ts j ≠ s.heap.objs.size := fun j hj => Nat.ne_of_lt (hTlt j hj)
  refine ⟨s.heap.objs.size, _, [s.heap.objs.size], its.size, _, _, _, (fun _ => true), Fj, rfl, (fun A' hA => walks_acc hA s.heap.objs.size x (Nat.ne_of_lt hxlt) its Ts (fun j => #[va j, vb j]) hit hIne |>.bound), (fun i vals hv => ⟨va i, vb i, hv.2⟩), ?_, ?_, hl₃, ?_, fun href hhref => ?_, fun a h₅ tk gs hgb hag hsz₅ hk₅ W hat => ?_⟩
  · refine ⟨⟨_, hx₃ _ _ (Nat.ne_of_gt hPlt) (Heap.get?_push_size _ rfl), rfl, rfl⟩, ⟨_, old _ _ hxP I.at_, _, rfl⟩, fun k hk => ?_⟩
    obtain ⟨o, ho, r⟩ := htup k hk
    exact ⟨o, old _ _ (hTP k hk) ho, r⟩
  · intro b hb
    rcases List.mem_cons.mp hb with rfl | hb
    · exact hsz
    rcases List.mem_cons.mp hb with rfl | hb
    · exact Nat.lt_trans hxlt hsz
    · obtain ⟨k, hk, rfl⟩ := List.mem_map.mp hb
      exact Nat.lt_trans (hTlt k (List.mem_range.mp hk)) hsz
  · intro hm'
    rw [List.mem_singleton.mp hm'] at hclt
    exact Nat.lt_irrefl _ hclt
  · have kp : ∀ (t : Shared), (∀ b ∈ List.range h₃.objs.size, b ∉ [s.heap.objs.size] → ∀ o, href.get? b = some o → t.heap.get? b = some o) → ∀ b o, b ≠ P → s.heap.get? b = some o → t.heap.get? b = some o := fun t hkp b o hbP e =>
      hkp b (List.mem_range.mpr (Nat.lt_trans (Heap.lt_size e) hsz)) (fun hm' => by rw [List.mem_singleton.mp hm'] at e; exact Nat.lt_irrefl _ (Heap.lt_size e)) o (hhref b o (old b o hbP e))
    exact ⟨fun A' E' i va' vb' t m₂ hA hD hU hPi hn hma hmb hkp => wpAny_pure ⟨rfl, _, _, rfl, fun _ _ e => e⟩, fun A' E' i va' vb' t m₂ hA hD hU hPi hp hn hma hmb hkp => by
      have e := hPi.2
      have e1 : va' = va i := by have := congrArg (fun q : Array Value => q[0]?) e; simpa using this
      have e2 : vb' = vb i := by have := congrArg (fun q : Array Value => q[1]?) e; simpa using this
      exact helt c' _ A' E' i t m₂ hPi.1 hA hD hU hn (by rw [hma, e1]) (by rw [hmb, e2]) (kp t hkp)⟩
  · have hp0 : passing (fun _ => true) its.size 0 = List.range its.size := by simp [passing]
    rw [hp0, List.length_range] at W
    have hag' : h₃.objs.size < a := hag
    have hsz5 : h₅.objs.size = a + 1 := hsz₅
    refine hQ c' a h₅ tk _ (hbare.push hgb) (fun b o hbP e => hk₅ b o (old b o hbP e)) (hk₅ _ _ hP₃) (by omega) ⟨_, _, _, _, W.imp (fun j y hy => ?_), hat, (fun i s' st => st.1.typeIs), List.mem_cons_self, ?_, ?_⟩
    · obtain ⟨i, hij, hF⟩ := hy
      have hlt : j < its.size := by
        have := (List.getElem?_eq_some_iff.mp hij).1
        rw [List.length_range] at this
        exact this
      rw [List.getElem?_range hlt] at hij
      have : j = i := Option.some.inj hij
      rw [this]; exact hF
    · intro b hb
      show b < h₅.objs.size
      rw [hsz₅]
      rcases List.mem_cons.mp hb with rfl | hb
      · exact Nat.lt_succ_self _
      rcases List.mem_cons.mp hb with rfl | hb
      · exact Nat.lt_succ_of_lt hag
      · exact Nat.lt_succ_of_lt (Nat.lt_trans (List.mem_range.mp hb) hag)
    · intro b hb
      rcases List.mem_cons.mp hb with rfl | hb
      · exact Nat.lt_of_le_of_lt (Nat.sub_le _ _) hsz
      · rw [List.mem_singleton.mp hb]
        exact Nat.sub_lt hpos Nat.one_pos
end
section
variable {prog : Program} {w : World} {A : Around} {E : Value → Shared → Prop} {s : Shared} {h₀ : Heap} {L K a : Addr} {m : Str → Option Value} {n : Nat} {F : Nat → Value → Prop} {u : Tok}
theorem sum_gen0 {Q : Value → Shared → Prop} (Fh : Fr h₀ L s.heap m) (G : AllBare s.gens) (X : Gen prog w A K a n F s) (hLK : L ≤ K) (val : Nat → Int) (hval : ∀ j v, F j v → ∃ t, v = .int (val j) t) (hfit : ∀ j, j < n → InLong (val j) ∧ InLong (preSum val (j + 1)))
    (hQ : ∀ s' t', AllBare s'.gens → s'.os = s.os → s'.drawn = s.drawn → (∀ b o, b ≤ K → s.heap.get? b = some o → s'.heap.get? b = some o) → Q (.int (preSum val n) t') s') : wpAny (model prog w) A (call (.builtin "sum") [.ref a, .int 0 u]) Q E s := by
  obtain ⟨fp, wr, g, St, W, hst, _, _, hfp, hwr⟩ := X
  have W := W.in4_1
  exact sum_from0 (W.self 0 _ _ _ hst ⟨a, _, _, _, _, _, _, val, rfl, W, hst, hfp, hval, hfit, fun s' t' hm => hQ s' t' (G.movedS hm) hm.os hm.drawn fun b o hb e => hm.heap b o (fun hmem => Nat.lt_irrefl _ (Nat.lt_of_lt_of_le (hwr b hmem) hb)) e⟩)
theorem gen_toks (X : Gen prog w A K a n F s) {tk : Nat} (h : s.toks ≤ tk) : Gen prog w A K a n F { s with toks := tk } := by
  obtain ⟨fp, wr, g, St, W, hst, a1, a2, hfp, hwr⟩ := X
  exact ⟨fp, wr, g, St, W, W.frame 0 _ _ _ hst h (fun _ _ _ e => e), a1, a2, hfp, hwr⟩
theorem preSum_le {val : Nat → Int} {B : Int} (hv : ∀ j, 0 ≤ val j ∧ val j ≤ B) : ∀ k, 0 ≤ preSum val k ∧ preSum val k ≤ B * k
  | 0 => by simp [preSum]
  | k + 1 => by
    have h1 := preSum_le hv k
    have h2 := hv k
    have e : preSum val (k + 1) = preSum val k + val k := rfl
    rw [e]
    refine ⟨Int.add_nonneg h1.1 h2.1, ?_⟩
    rw [Int.natCast_add, Int.mul_add]
    exact Int.add_le_add h1.2 (Int.le_trans h2.2 (Int.le_of_eq (Int.mul_one B).symm))
/-- a table of the ledger has grown, all else is as it was -/
theorem after_tab {h h' : Heap} {P : Addr} {o o' : Obj} (F : Fr h₀ L h m) (N : News h₀ L h [(P, o)]) (hx : ∀ b ob, b ≠ P → h.get? b = some ob → h'.get? b = some ob) (hP : h'.get? P = some o') : Fr h₀ L h' m ∧ News h₀ L h' [(P, o')] := by
  have z := N _ (.head _)
  refine ⟨⟨F.ns.extBut (fun b ob hb e => hx b ob hb e) (fun e => z.2.1 e.symm), fun b ob e => hx b ob (fun q => ?_) (F.keep b ob e), F.above⟩, fun q hq => ?_⟩
  · have z2 := z.2.2
    simp only at z2
    rw [q, z2] at e; cases e
  · rw [List.mem_singleton.mp hq]
    exact ⟨hP, z.2⟩
end
end
section
local macro_rules | `(tactic| walk_at "eval GeneratorExp") => `(tactic| walk_at "M stop")
/-- the pairs that an accumulator holds -/
noncomputable def PartsAt (h : Heap) (its : Array Value) (ps : List (Str × Str)) : Prop := its.size = ps.length ∧ ∀ j, j < its.size → ∃ ta t1 t2, its[j]? = some (.ref ta) ∧ h.IsTuple ta #[.str (ps.getD j default).1 t1, .str (ps.getD j default).2 t2]
local macro_rules | `(tactic| k_inst) => `(tactic| exact (by assumption : InstAt _ _ _ _ _))
local macro_rules | `(tactic| k_get) => `(tactic| assumption)
theorem parts_fun {h : Heap} {its : Array Value} {ps : List (Str × Str)} (hP : PartsAt h its ps) : ∃ (Ts : Nat → Addr) (t1 t2 : Nat → Tok), ∀ j, j < its.size → its[j]? = some (.ref (Ts j)) ∧ h.IsTuple (Ts j) #[.str (ps.getD j default).1 (t1 j), .str (ps.getD j default).2 (t2 j)] := by
  have key : ∀ j, ∃ q : Addr × Tok × Tok, j < its.size → its[j]? = some (.ref q.1) ∧ h.IsTuple q.1 #[.str (ps.getD j default).1 q.2.1, .str (ps.getD j default).2 q.2.2] := fun j => by
    by_cases hj : j < its.size
    · obtain ⟨ta, t1, t2, e1, e2⟩ := hP.2 j hj
      exact ⟨(ta, t1, t2), fun _ => ⟨e1, e2⟩⟩
    · exact ⟨(0, 0, 0), fun h => absurd h hj⟩
  refine ⟨fun j => (key j).choose.1, fun j => (key j).choose.2.1, fun j => (key j).choose.2.2, fun j hj => (key j).choose_spec hj⟩
theorem PartsAt.keeps {h h' : Heap} {its : Array Value} {ps : List (Str × Str)} (hP : PartsAt h its ps) (k : ∀ ta vs, h.IsTuple ta vs → h'.IsTuple ta vs) : PartsAt h' its ps :=
  ⟨hP.1, fun j hj => by obtain ⟨ta, t1, t2, e1, e2⟩ := hP.2 j hj; exact ⟨ta, t1, t2, e1, k _ _ e2⟩⟩
theorem tup_not_tab {h : Heap} {ta P : Addr} {vs ps : Array Value} (ht : h.IsTuple ta vs) (hP : h.get? P = some (tabObj ps)) : ta ≠ P := fun e => by
  obtain ⟨o, ho, hc, _⟩ := ht
  rw [e, hP] at ho; cases ho; exact absurd hc (by simp)
section
variable {prog : Program} {w : World} {A : Around} {E : Value → Shared → Prop} {s : Shared} {scope : Scope} {cl : List (Str × Addr)} {C : Addr} {code : Value} {env : Env} {x : Str} {pos : Pos} {v : Value} {m mg mb : Str → Option Value} {Q : Value → Shared → Prop}
theorem ld_genL (n : s.heap.Ns C m) (hv : m x = some v) (h : Q v s) (hk : scope.kind = .function := by rfl) (hl : (genEnv scope cl C code builtinsNs env).kindOf x = some .local := by rfl) (hd : (x == ("__debug__" : Str)) = false := by decide) :
    wpAny (model prog w) A (eval (.Name x pos) (genEnv scope cl C code builtinsNs env)) Q E s := wpAny_Name (wpAny_loadName_local hk hl n hv h) hd
theorem ld_genB (hg : s.heap.Ns env.globals mg) (hb : s.heap.Ns builtinsNs mb) (hm : mg x = none) (hv : mb x = some v) (h : Q v s) (hk : (genEnv scope cl C code builtinsNs env).scope.kind = .function := by rfl) (hl : (genEnv scope cl C code builtinsNs env).kindOf x = some .globalImplicit := by rfl) (hd : (x == ("__debug__" : Str)) = false := by decide) :
    wpAny (model prog w) A (eval (.Name x pos) (genEnv scope cl C code builtinsNs env)) Q E s :=
  Name_function_global hk hl (loadGlobal_builtin (env := genEnv scope cl C code builtinsNs env) hg hm hb hv h) hd
theorem ld_genG (hg : s.heap.Ns env.globals mg) (hm : mg x = some v) (h : Q v s) (hk : (genEnv scope cl C code builtinsNs env).scope.kind = .function := by rfl) (hl : (genEnv scope cl C code builtinsNs env).kindOf x = some .globalImplicit := by rfl) (hd : (x == ("__debug__" : Str)) = false := by decide) :
    wpAny (model prog w) A (eval (.Name x pos) (genEnv scope cl C code builtinsNs env)) Q E s :=
  Name_function_global hk hl (loadGlobal_global (env := genEnv scope cl C code builtinsNs env) hg hm h) hd
end
local macro_rules | `(tactic| walk_at "eval Name") => `(tactic| ((with_reducible show wpAny _ _ (eval (Expr.Name _ _) (genEnv _ _ _ _ _ _)) _ _ _); first | refine Mine.ld_genL (by with_reducible assumption) (by with_reducible assumption) ?_ | refine Mine.ld_genB (by assumption) (by assumption) (by assumption) (by assumption) ?_ | refine Mine.ld_genG (by assumption) (by assumption) ?_))
theorem lenC {w : World} {p : Program} {loose : List Str} {mean : ExcName → Option Value} {mg mb : Str → Option Value} (x dx : Addr) (its : Array Value) (n : Nat) (es : List DictEntry) (nd : Nat) (ps : List (Str × Str)) (u : Tok) (tb : Option Addr)
    (dp un : Nat) (gd : Option (List Code)) (cn : Str) (cs : Scope) (a : Addr) (ccd : Value) (cl : List (Str × Addr)) (outer : List Env) (A₀ : Around) (base h₀ : Heap) (L : Addr) (m : Str → Option Value) (s : Shared) (Q E : Value → Shared → Prop)
    (hI : InstAt s.heap x (accObj dx its n) 195 (some (dictOf es nd))) (hP : PartsAt s.heap its ps) (hod : getL (Str.ofString "_initial_size") es = some (some (.int 0 u))) (hlen : ps.length ≤ 10) (hsz : ∀ q ∈ ps, q.1.length ≤ 100 ∧ q.2.length ≤ 100)
    (N : News h₀ L s.heap [(157, tabObj (tabG 94 19 tb))]) (C : CodeHd base 161 157) (hg : AllBare s.gens)
    (B : Below A₀ base outer h₀) (F : Fr h₀ L s.heap m) (X : (Mine.hd.heap_1 w.params).In h₀) (T : Top p loose mean mg mb h₀) (hk : cs.kind = .function) (hd : dp + 8 < recursionLimit) (hu : un + 200 < cLine)
    (hret : ∀ t h' tk' gs' c', AllBare gs' → (∀ b o, b ≠ 157 → s.heap.get? b = some o → h'.get? b = some o) → h'.get? 157 = some (tabObj (tabG 94 19 (some c'))) → Q (.int ((ps.map fun q => (q.1.length : Int) + (q.2.length : Int)).sum) t) { s with heap := h', toks := tk', gens := gs' }) :
    wpAny (model PySem.Challenge.rw_ik0127_01.row.prog w) (ktrTop dp un gd cn cs L a ccd cl outer) (call (.ref 162) [.ref x]) Q E s := by
  revert X T; k_fill; intro X T
  refine wpAny_call ?_
  k_dflt (refine' Mine.enterT ?kN ?k1 ?k2 ?k3 ?k5 ?kA ?kF ?kK ?k6 ?k7 ?k8 ?k9 ?kB ?_ ?c2 ?c3 ?c4 ?c5; (case kA | kF => exact rfl); (case kK | kN => assumption); (case k1 | k2 | k3 | k5 => k_asm); (case k6 | k7 => k_is); (case k8 => ktr_room); (case k9 => exact BindsTo.of_eq rfl); (case c5 => decide); (case kB => exact locs rfl); (case c2 | c3 | c4 => exact rfl); k_whole; intro _ _ _ _ _ _ _ _ _ _; (try dsimp only); (try k_fold))
  rename_i L' h' g' kg' F' N' B' X' T' kn'
  k_steps
  obtain ⟨Ts, t1, t2, hTs⟩ := parts_fun hP
  have hT0 := (N _ (.head _)).1
  have hg9 : ∀ b o, b ≠ 157 → s.heap.get? b = some o → h'.get? b = some o := fun b o hb e => F'.keep b o (kg' b o e hb)
  have hx9 : x ≠ 157 := fun e => by
    have := hI.at_
    rw [e, hT0] at this
    cases this
  have hdx : dx ≠ 157 := fun e => by
    have h0 : s.heap.get? dx = some (dictOf es nd) := hI.dict
    rw [e] at h0
    have h1 := h0.symm.trans hT0
    exact absurd (congrArg Obj.cls (Option.some.inj h1)) (by intro h; cases h)
  have hI' : InstAt h' x (accObj dx its n) 195 (some (dictOf es nd)) := ⟨hg9 _ _ hx9 hI.at_, rfl, rfl, hg9 _ _ hdx hI.dict⟩
  have hT' : ∀ j, j < its.size → h'.IsTuple (Ts j) #[.str (ps.getD j default).1 (t1 j), .str (ps.getD j default).2 (t2 j)] := fun j hj => by
    obtain ⟨o, ho, r⟩ := (hTs j hj).2
    exact ⟨o, hg9 _ _ (tup_not_tab (hTs j hj).2 hT0) ho, r⟩
  have TT := T'.keeps F'.keep
  obtain ⟨bm, ob, b1, b2, b3, b4, b5, b6⟩ := T'.bmain
  have hP' : h'.get? 157 = some (tabObj (tabG 94 19 tb)) := (N' _ (.head _)).1
  have hbP : bm ≠ 157 := fun q => by
    have e := F'.keep _ _ b3
    rw [q, hP'] at e; cases e; cases b4
  have hbG : bm ≠ mainGlobals := fun q => by
    obtain ⟨o, es, ep, e, hd, _⟩ := T'.g
    rw [q, e] at b3; cases b3; rw [hd] at b6; cases b6
  have hgP : mainGlobals ≠ 157 := by decide
  refine Mine.gen_pairs (x := x) (its := its) (n := n) (dx := dx) (od := dictOf es nd) (P := 157) (c := 161) (tb := tb) (mg := mg) Ts (fun j => .str (ps.getD j default).1 (t1 j)) (fun j => .str (ps.getD j default).2 (t2 j)) (fun j y => ∃ t, y = .int (((ps.getD j default).1.length : Int) + ((ps.getD j default).2.length : Int)) t)
    ?heval rfl rfl (X'.keeps F'.keep) hI' (by exact rfl) (by exact rfl) (fun j hj => (hTs j hj).1) hT' rfl ?C hP' TT.g ⟨bm, ob, b1, b2, hbG, hbP, F'.keep _ _ b3, b4, b5, b6⟩ hgP TT.nolimit hg rfl rfl (by decide) rfl rfl rfl (by decide) rfl ?room (by intro _; with_unfolding_all rfl) ?helt ?hQ
  case heval =>
    intro Q E q
    exact wpAny_Name (wpAny_loadName_local rfl rfl F'.ns rfl q) (by decide)
  case C => exact CodeHd.keeps (by kn_code) F'.keep
  case room => ktr_room
  case helt =>
    intro c' C' A' E' j t m₂ hj hA hD hU hn hma hmb hkp
    have hgt : t.heap.Ns mainGlobals mg := TT.g.at' fun o e => hkp _ o hgP e
    have hbt : t.heap.Ns builtinsNs mb := TT.b.at' fun o e => hkp _ o (by decide) e
    have hm1 : mg (Str.ofString "len") = none := mg_none_of X' T'.g (by exact rfl)
    have hv1 : mb (Str.ofString "len") = some (.builtin "len") := (T'.builtins _ (by decide)).trans (by boot_by_name)
    have hj2 : j < ps.length := hP.1 ▸ hj
    have hq : ps.getD j default ∈ ps := by
      rw [List.getD_eq_getElem?_getD, List.getElem?_eq_getElem hj2]
      exact List.getElem_mem hj2
    have hz1 := (hsz _ hq).1
    have hz2 := (hsz _ hq).2
    clear hret hsz

    walk_at "M w"
    walk_at "M w"
    refine Mine.ld_genB hgt hbt hm1 hv1 ?_
    walk_at "M w"
    walk_at "M w"
    refine Mine.ld_genL hn hma ?_

    walk_at "M w"
    walk_at "M w"

    walk_at "M w"
    refine Mine.ld_genB hgt hbt hm1 hv1 ?_
    walk_at "M w"
    walk_at "M w"
    refine Mine.ld_genL hn hmb ?_
    walk_at "M w"
    walk_at "M w"

    walk_at "M w"
    exact ⟨⟨_, rfl⟩, _, _, rfl, fun _ _ e => e⟩
  case hQ =>
    intro c' ag h₅ tk5 gs5 hb5 hk5 hP5 hsz5 hG
    obtain ⟨F5, N5⟩ := after_tab F' N' hk5 hP5
    have hI5 : InstAt h₅ x (accObj dx its n) 195 (some (dictOf es nd)) := ⟨hk5 _ _ hx9 hI'.at_, rfl, rfl, hk5 _ _ hdx hI'.dict⟩
    walk_at "M w"
    walk_at "M w"
    walk_at "M w"

    refine Mine.get_acc (X'.keeps F5.keep) hI5 (by exact rfl) (by exact rfl) (by exact rfl) (findObj_own (by exact rfl) (by exact rfl) (by exact rfl) ((lookIn_dict _ _ _).trans hod)) rfl ?_

    walk_at "M w"

    have hK : L' ≤ h'.objs.size - 1 := Nat.le_sub_one_of_lt F'.ns.lt
    have hval : ∀ j, 0 ≤ ((ps.getD j default).1.length : Int) + ((ps.getD j default).2.length : Int) ∧ ((ps.getD j default).1.length : Int) + ((ps.getD j default).2.length : Int) ≤ 200 := fun j => by
      by_cases hj : j < ps.length
      · have hq : ps.getD j default ∈ ps := by
          rw [List.getD_eq_getElem?_getD, List.getElem?_eq_getElem hj]
          exact List.getElem_mem hj
        have := hsz _ hq
        lia
      · rw [List.getD_eq_getElem?_getD, List.getElem?_eq_none (by lia)]
        decide
    refine Mine.sum_gen0 (n := its.size) F5 hb5 (gen_toks hG (Nat.le_succ _)) hK (fun j => ((ps.getD j default).1.length : Int) + ((ps.getD j default).2.length : Int)) (fun j v hv => hv) (fun j hj => ?fit) (fun s' t' hb6 hos6 hdr6 hk6 => ?fin)
    case fit =>
      have h1 := preSum_le hval (j + 1)
      have h2 := hval j
      have h3 := hP.1
      unfold InLong
      exact ⟨⟨Int.le_trans (by decide) h2.1, Int.lt_of_le_of_lt h2.2 (by decide)⟩, Int.le_trans (by decide) h1.1, Int.lt_of_le_of_lt (Int.le_trans h1.2 (Int.mul_le_mul_of_nonneg_left (Int.ofNat_le.mpr (Nat.le_trans hj (Nat.le_trans (Nat.le_of_eq h3) (by assumption : ps.length ≤ 10)))) (by decide))) (by decide)⟩
    case fin =>
      obtain ⟨h6, g6, d6, t6, o6⟩ := s'
      dsimp only at hos6 hdr6 hb6 hk6
      subst hos6 hdr6
      have up : ∀ b o, h'.get? b = some o → b ≤ h'.objs.size - 1 := fun b o e => Nat.le_sub_one_of_lt (Heap.lt_size e)
      have e1 : preSum (fun j => ((ps.getD j default).1.length : Int) + ((ps.getD j default).2.length : Int)) its.size = (ps.map fun q => (q.1.length : Int) + (q.2.length : Int)).sum := by
        have e2 : (fun j => ((ps.getD j default).1.length : Int) + ((ps.getD j default).2.length : Int)) = fun i => (ps.map fun q => (q.1.length : Int) + (q.2.length : Int)).getD i 0 := by
          funext j
          rw [List.getD_eq_getElem?_getD, List.getD_eq_getElem?_getD, List.getElem?_map]
          cases ps[j]? <;> rfl
        rw [e2, preSum_getD, hP.1, List.take_of_length_le (by rw [List.length_map]; exact Nat.le_refl _)]
      rw [e1]
      exact hret _ _ _ _ _ hb6 (fun b o hb e => hk6 b o (up _ _ (hg9 b o hb e)) (hk5 b o hb (hg9 b o hb e))) (hk6 _ _ (up _ _ hP') hP5)
end
section
local macro_rules | `(tactic| walk_at "Idle") => `(tactic| skip)
local macro_rules | `(tactic| walk_at "eval GeneratorExp") => `(tactic| walk_at "M stop")
local macro_rules | `(tactic| k_inst) => `(tactic| exact (by assumption : InstAt _ _ _ _ _))
local macro_rules | `(tactic| k_get) => `(tactic| assumption)
local macro_rules | `(tactic| walk_at "eval Name") => `(tactic| ((with_reducible show wpAny _ _ (eval (Expr.Name _ _) (genEnv _ _ _ _ _ _)) _ _ _); first | refine Mine.ld_genL (by with_reducible assumption) (by with_reducible assumption) ?_ | refine Mine.ld_genB (by assumption) (by assumption) (by assumption) (by assumption) ?_ | refine Mine.ld_genG (by assumption) (by assumption) ?_))
theorem sum_most {α : Type} {f : α → Nat} {B : Nat} : ∀ {l : List α}, (∀ y ∈ l, f y ≤ B) → (l.map f).sum ≤ l.length * B
  | [], _ => by simp
  | y :: l, h => by
    have h1 := sum_most (l := l) fun z hz => h z (.tail _ hz)
    have h2 := h y (.head _)
    rw [List.map_cons, List.sum_cons, List.length_cons, Nat.succ_mul, Nat.add_comm]
    exact Nat.add_le_add h1 h2
/-- the text of an accumulator -/
noncomputable def catS (ps : List (Str × Str)) : Str := Txt.join (Str.ofString "") (ps.map fun q => Txt.join (Str.ofString "") [q.1, q.2])
theorem strC {w : World} {p : Program} {loose : List Str} {mean : ExcName → Option Value} {mg mb : Str → Option Value} (x dx : Addr) (its : Array Value) (n : Nat) (es : List DictEntry) (nd : Nat) (ps : List (Str × Str)) (u : Tok) (tb : Option Addr)
    (dp un : Nat) (gd : Option (List Code)) (cn : Str) (cs : Scope) (a : Addr) (ccd : Value) (cl : List (Str × Addr)) (outer : List Env) (A₀ : Around) (base h₀ : Heap) (L : Addr) (m : Str → Option Value) (s : Shared) (Q E : Value → Shared → Prop)
    (hI : InstAt s.heap x (accObj dx its n) 195 (some (dictOf es nd))) (hP : PartsAt s.heap its ps) (hod : getL (Str.ofString "_initial_size") es = some (some (.int 0 u))) (hlen : ps.length ≤ 10) (hsz : ∀ q ∈ ps, q.1.length ≤ 100 ∧ q.2.length ≤ 100)
    (N : News h₀ L s.heap [(164, tabObj (tabG 97 32 tb))]) (C : CodeHd base 168 164) (hg : AllBare s.gens)
    (B : Below A₀ base outer h₀) (F : Fr h₀ L s.heap m) (X : (Mine.hd.heap_1 w.params).In h₀) (T : Top p loose mean mg mb h₀) (hk : cs.kind = .function) (hd : dp + 8 < recursionLimit) (hu : un + 200 < cLine)
    (hret : ∀ t h' tk' gs' d' c', AllBare gs' → (∀ b o, b ≠ 164 → s.heap.get? b = some o → h'.get? b = some o) → h'.get? 164 = some (tabObj (tabG 97 32 (some c'))) → Q (.str (catS ps) t) { s with heap := h', toks := tk', gens := gs', drawn := d' }) :
    wpAny (model PySem.Challenge.rw_ik0127_01.row.prog w) (ktrTop dp un gd cn cs L a ccd cl outer) (call (.ref 169) [.ref x]) Q E s := by
  revert X T; k_fill; intro X T
  refine wpAny_call ?_
  k_dflt (refine' Mine.enterT ?kN ?k1 ?k2 ?k3 ?k5 ?kA ?kF ?kK ?k6 ?k7 ?k8 ?k9 ?kB ?_ ?c2 ?c3 ?c4 ?c5; (case kA | kF => exact rfl); (case kK | kN => assumption); (case k1 | k2 | k3 | k5 => k_asm); (case k6 | k7 => k_is); (case k8 => ktr_room); (case k9 => exact BindsTo.of_eq rfl); (case c5 => decide); (case kB => exact locs rfl); (case c2 | c3 | c4 => exact rfl); k_whole; intro _ _ _ _ _ _ _ _ _ _; (try dsimp only); (try k_fold))
  rename_i L' h' g' kg' F' N' B' X' T' kn'
  k_steps
  obtain ⟨Ts, t1, t2, hTs⟩ := parts_fun hP
  have hT0 := (N _ (.head _)).1
  have hg9 : ∀ b o, b ≠ 164 → s.heap.get? b = some o → h'.get? b = some o := fun b o hb e => F'.keep b o (kg' b o e hb)
  have hx9 : x ≠ 164 := fun e => by
    have := hI.at_
    rw [e, hT0] at this
    cases this
  have hdx : dx ≠ 164 := fun e => by
    have h0 : s.heap.get? dx = some (dictOf es nd) := hI.dict
    rw [e] at h0
    have h1 := h0.symm.trans hT0
    exact absurd (congrArg Obj.cls (Option.some.inj h1)) (by intro h; cases h)
  have hI' : InstAt h' x (accObj dx its n) 195 (some (dictOf es nd)) := ⟨hg9 _ _ hx9 hI.at_, rfl, rfl, hg9 _ _ hdx hI.dict⟩
  have hT' : ∀ j, j < its.size → h'.IsTuple (Ts j) #[.str (ps.getD j default).1 (t1 j), .str (ps.getD j default).2 (t2 j)] := fun j hj => by
    obtain ⟨o, ho, r⟩ := (hTs j hj).2
    exact ⟨o, hg9 _ _ (tup_not_tab (hTs j hj).2 hT0) ho, r⟩
  have TT := T'.keeps F'.keep
  obtain ⟨bm, ob, b1, b2, b3, b4, b5, b6⟩ := T'.bmain
  have hP' : h'.get? 164 = some (tabObj (tabG 97 32 tb)) := (N' _ (.head _)).1
  have hbP : bm ≠ 164 := fun q => by
    have e := F'.keep _ _ b3
    rw [q, hP'] at e; cases e; cases b4
  have hbG : bm ≠ mainGlobals := fun q => by
    obtain ⟨o, es, ep, e, hd, _⟩ := T'.g
    rw [q, e] at b3; cases b3; rw [hd] at b6; cases b6
  have hgP : mainGlobals ≠ 164 := by decide
  refine Mine.gen_pairs (x := x) (its := its) (n := n) (dx := dx) (od := dictOf es nd) (P := 164) (c := 168) (tb := tb) (mg := mg) Ts (fun j => .str (ps.getD j default).1 (t1 j)) (fun j => .str (ps.getD j default).2 (t2 j)) (fun j y => ∃ t, y = .str (Txt.join (Str.ofString "") [(ps.getD j default).1, (ps.getD j default).2]) t)
    ?heval rfl rfl (X'.keeps F'.keep) hI' (by exact rfl) (by exact rfl) (fun j hj => (hTs j hj).1) hT' rfl ?C hP' TT.g ⟨bm, ob, b1, b2, hbG, hbP, F'.keep _ _ b3, b4, b5, b6⟩ hgP TT.nolimit hg rfl rfl (by decide) rfl rfl rfl (by decide) rfl ?room (by intro _; with_unfolding_all rfl) ?helt ?hQ
  case heval =>
    intro Q E q
    exact wpAny_Name (wpAny_loadName_local rfl rfl F'.ns rfl q) (by decide)
  case C => exact CodeHd.keeps (by kn_code) F'.keep
  case room => ktr_room
  case helt =>
    intro c' C' A' E' j t m₂ hj hA hD hU hn hma hmb hkp
    have hgt : t.heap.Ns mainGlobals mg := TT.g.at' fun o e => hkp _ o hgP e
    have hm1 := mg_of (n := Str.ofString "EMPTYSTRING") X' T'.g (by exact rfl)
    have hj2 : j < ps.length := hP.1 ▸ hj
    have hq : ps.getD j default ∈ ps := by
      rw [List.getD_eq_getElem?_getD, List.getElem?_eq_getElem hj2]
      exact List.getElem_mem hj2
    have hz1 := (hsz _ hq).1
    have hz2 := (hsz _ hq).2
    clear hret hsz

    walk_at "M w"

    refine Mine.ld_genG hgt hm1 ?_

    walk_at "M w"

    iterate 6 (first | refine Mine.ld_genL hn hma ?_ | refine Mine.ld_genL hn hmb ?_ | walk_at "M w")
    refine Mine.ld_genL hn hmb ?_

    walk_at "M w"
    simp only [newTuple]
    refine wpAny_newObj_type ?_ (by size_fits)
    walk_at "M w"

    refine join_tuple (ys := [(ps.getD j default).1, (ps.getD j default).2]) ⟨_, Heap.get?_push_size _ rfl, rfl, _, rfl⟩ (.cons _ _ (.cons _ _ .nil)) (by simp only [List.map_cons, List.map_nil, List.sum_cons, List.sum_nil, List.length_cons, List.length_nil, show (Str.ofString "").length = 0 from by decide]; lia) (fun t' k => ⟨⟨t', rfl⟩, _, _, rfl, fun _ _ e => Heap.get?_push_of_some _ e⟩)
  case hQ =>
    intro c' ag h₅ tk5 gs5 hb5 hk5 hP5 hsz5 hG
    obtain ⟨F5, N5⟩ := after_tab F' N' hk5 hP5
    walk_at "M w"

    have hK : L' ≤ h'.objs.size - 1 := Nat.le_sub_one_of_lt F'.ns.lt
    have hlen2 : ∀ j, (Txt.join (Str.ofString "") [(ps.getD j default).1, (ps.getD j default).2]).length ≤ 200 := fun j => by
      have h1 := StrLaws.join_length_le (Str.ofString "") [(ps.getD j default).1, (ps.getD j default).2]
      by_cases hj : j < ps.length
      · have hq : ps.getD j default ∈ ps := by
          rw [List.getD_eq_getElem?_getD, List.getElem?_eq_getElem hj]
          exact List.getElem_mem hj
        have := hsz _ hq
        refine Nat.le_trans h1 ?_
        have e0 : (Str.ofString "").length = 0 := by decide
        simp only [List.map_cons, List.map_nil, List.sum_cons, List.sum_nil, List.length_cons, List.length_nil, e0]
        lia
      · rw [List.getD_eq_getElem?_getD, List.getElem?_eq_none (by lia)]
        decide
    have htx : (List.range its.size).map (fun j => Txt.join (Str.ofString "") [(ps.getD j default).1, (ps.getD j default).2]) = ps.map fun q => Txt.join (Str.ofString "") [q.1, q.2] := by
      rw [hP.1]
      apply List.ext_getElem?
      intro j
      rw [List.getElem?_map, List.getElem?_map]
      by_cases hj : j < ps.length
      · rw [List.getElem?_range hj, List.getElem?_eq_getElem hj]
        simp only [Option.map_some]
        rw [List.getD_eq_getElem?_getD, List.getElem?_eq_getElem hj]
        rfl
      · rw [List.getElem?_eq_none (by rw [List.length_range]; lia), List.getElem?_eq_none (by lia)]
        rfl
    refine join_rowsK (n := its.size) F5 hb5 hG hK (fun j => Txt.join (Str.ofString "") [(ps.getD j default).1, (ps.getD j default).2]) (fun j v hv => hv) ?jok (fun s' t' F6 hb6 hos6 hk6 => ?fin) ?jsz
    case jok =>
      rw [htx]
      have hs9 := sum_most (l := ps.map fun q => Txt.join (Str.ofString "") [q.1, q.2]) (f := Str.length) (B := 200) (fun y hy => by
        rw [← htx] at hy
        obtain ⟨j, _, rfl⟩ := List.mem_map.mp hy
        exact hlen2 j)
      refine joinOk_of ?_
      rw [List.length_map] at hs9 ⊢
      have e0 : (Str.ofString "").length = 0 := by decide
      rw [e0, Nat.mul_zero]
      refine Nat.le_trans (Nat.add_le_add_right hs9 0) ?_
      lia
    case jsz =>
      have := hP.1
      rw [sizeLine_eq]
      lia
    case fin =>
      rw [htx]
      obtain ⟨h6, g6, d6, t6, o6⟩ := s'
      dsimp only at hos6 hb6 hk6
      subst hos6
      have up : ∀ b o, h'.get? b = some o → b ≤ h'.objs.size - 1 := fun b o e => Nat.le_sub_one_of_lt (Heap.lt_size e)
      exact hret _ _ _ _ _ _ hb6 (fun b o hb e => hk6 b o (up _ _ (hg9 b o hb e)) (hk5 b o hb (hg9 b o hb e))) (hk6 _ _ (up _ _ hP') hP5)
end
section
section
variable {prog : Program} {w : World} {A A₀ : Around} {s : Shared} {K : Frag} {L : Addr} {h₀ base : Heap} {m mg mb : Str → Option Value} {p : Program} {loose : List Str} {mean : ExcName → Option Value} {news : List (Addr × Obj)}
/-- a call of a def that closes over __class__; the caller's ledger is handed on to the callee's -/
theorem enterS {env : Env} {outer : List Env} {R : Result → Shared → Prop} {name qual : Str} {params : Arguments} {body : List Stmt} {scope : Scope} {dV kV doc pm cdv ct oc : Value} {an od : Option Addr} {osl : Array (Option Value)} {f cc : Addr} {args : Args} {binds : List (Str × Value)}
    (N : News h₀ L s.heap news)
    (B : Below A₀ base outer h₀) (F : Fr h₀ L s.heap m) (X₀ : K.In h₀) (T : Top p loose mean mg mb h₀) (hA : A.frames = some (env :: outer)) (hf : env.frame = some L) (hke : env.scope.kind = .function)
    (ho : K.lookup f = some ⟨oc, od, .func (ksFn name qual params body scope dV kV doc pm an cdv ct cc), osl⟩) (hcd : codeIn K cdv qual = true) (hroom : A.depth < recursionLimit)
    (hbind : BindsTo s (ksFn name qual params body scope dV kV doc pm an cdv ct cc) args binds) (hloc : ∀ y ∈ binds, scope.names.lookup y.1 = some .local)
    (h : ∀ L' h₁ g, (∀ b o, s.heap.get? b = some o → b ∉ news.map (·.1) → g.get? b = some o) → Fr g L' h₁ (fun y => binds.reverse.lookup y) → News g L' h₁ news → Below A base (env :: outer) g → K.In g → Top p loose mean mg mb g → (∀ b, s.heap.get? b = none → g.get? b = none) →
      _root_.PySem.wpAt (model prog w) (A.deeper (ksEnv qual scope L' f cdv cc)) (.func body (ksEnv qual scope L' f cdv cc)) (execs body (ksEnv qual scope L' f cdv cc))
        (fun fl s' => R (.ok (.ret (match fl with | .ret v => v | _ => .none))) s')
        (fun e s' => wpAny (model prog w) (A.deeper (ksEnv qual scope L' f cdv cc)) (leaving (ksEnv qual scope L' f cdv cc) e) (fun _ s'' => R (.error e) s'') (fun e' s'' => R (.error e') s'') s')
        { s with heap := h₁, toks := s.toks + binds.length })
    (hcell : ∀ x ∈ scope.names, x.2 ≠ .cell) (hco : scope.isCoroutine = false) (hgen : scope.isGenerator = false) (hk : scope.kind = .function) : codeAny (model prog w) A (.call (.ref f) args) R s := by
  obtain ⟨FG, BG, st, lv⟩ := groundX (R := R) (news := news) B F N hA hf hke
  refine ks_codeAny_call_defAt (fd := ksFn name qual params body scope dV kV doc pm an cdv ct cc) (body := body) (binds := binds) hroom ((X₀.keeps F.keep) _ _ ho) rfl (T.nolimit.keeps F.keep) (codeRec_of (X₀.keeps F.keep) hcd) rfl hbind hcell hloc (fun h₁ hns hk₁ => ?_) hco hgen hk
  refine h s.heap.objs.size h₁ _ (fun b o e hb => hideAll_get _ e hb) ⟨hns, fun b o e => hk₁ b o (of_hideAll _ e), Nat.le_of_eq (hideAll_size _ _)⟩ (fun q hq => ?_) BG (X₀.keeps st) (T.keeps st) (fun b e => ?_)
  · exact ⟨hk₁ _ _ (N _ hq).1, Nat.ne_of_lt (Heap.lt_size (N _ hq).1), hideAll_none _ (List.mem_map_of_mem hq)⟩
  · cases q : (hideAll s.heap (news.map (·.1))).get? b with
    | none => rfl
    | some o => rw [of_hideAll _ q] at e; cases e
end
end
section
local macro_rules | `(tactic| k_inst) => `(tactic| exact Mine.acc_inst (by k_asm) (by k_mem) (by k_mem))
theorem partC {w : World} {p : Program} {loose : List Str} {mean : ExcName → Option Value} {mg mb : Str → Option Value} (x dx : Addr) (its : Array Value) (n : Nat) (es : List DictEntry) (nd : Nat)
    (dp un : Nat) (gd : Option (List Code)) (cn : Str) (cs : Scope) (a : Addr) (ccd : Value) (cl : List (Str × Addr)) (outer : List Env) (A₀ : Around) (base h₀ : Heap) (L : Addr) (m : Str → Option Value) (s : Shared) (Q E : Value → Shared → Prop)
    (N : News h₀ L s.heap [(x, accObj dx its n), (dx, dictOf es nd)]) (hz : its.size ≤ 100)
    (B : Below A₀ base outer h₀) (F : Fr h₀ L s.heap m) (X : (Mine.hd.heap_1 w.params).In h₀) (T : Top p loose mean mg mb h₀) (hk : cs.kind = .function) (hd : dp + 8 < recursionLimit) (hu : un + 200 < cLine)
    (hret : ∀ t h' tk', (∀ b o, s.heap.get? b = some o → h'.get? b = some o) → Q (.int its.size t) { s with heap := h', toks := tk' }) :
    wpAny (model PySem.Challenge.rw_ik0127_01.row.prog w) (ktrTop dp un gd cn cs L a ccd cl outer) (call (.ref 192) [.ref x]) Q E s := by
  revert X T; k_fill; intro X T
  refine wpAny_call ?_
  (refine' Mine.enterS ?kN ?k1 ?k2 ?k3 ?k5 ?kA ?kF ?kK ?k6 ?k7 ?k8 ?k9 ?kB ?_ ?c1 ?c2 ?c3 ?c4; (case kA | kF => exact rfl); (case kK | kN => assumption); (case k1 | k2 | k3 | k5 => k_asm); (case k6 | k7 => k_is); (case k8 => ktr_room); (case k9 => exact BindsTo.of_eq rfl); (case kB => exact locs rfl); (case c1 => decide); (case c2 | c3 | c4 => exact rfl); intro _ _ _ _ _ _ _ _ _ _)
  rename_i L' h' g' kg' F' N' B' X' T' kn'
  iterate 4 walk_at "M w"

  rename Fr _ _ _ _ => F5
  rename News _ _ _ _ => N5
  rename Frag.In _ _ => X5
  have hxe := (N5 (x, accObj dx its n) (by k_mem)).1
  refine Mine.super_method (o' := { cls := .type "method-wrapper", data := .fields #[.builtin "list.__len__", .ref x] }) (T := "wrapper_descriptor") (gid := "wrapper_descriptor.__get__") F5 X5 N5 (by k_mem) (Mine.acc_inst N5 (by k_mem) (by k_mem)) (by k_is) (by ks_is) (fun A Q E s q => (Looks.of_pure (h := s.heap) (by show builtinType _ = _; rw [builtinType_eq_fast]; kernel_rfl) : Looks _ _ (typeOf (.builtin "list.__len__")) (.type "wrapper_descriptor")) A Q E s (fun _ _ e => e) q) (by rw [typeLookup_type, builtinLookup_eq_fast]; kernel_rfl) (by decide)
    (fun A Q E s' e hend => bindLen (by rw [e]; exact X5.keeps F5.keep) (by rw [e]; exact hxe) hend) ?_
  intro q6 h6 tk6 F6 N6 hq6 hk6
  refine Mine.callWith_0 (N6 _ (.head _)).1 (.inl rfl) (Mine.callLen (X5.keeps F6.keep) (N6 _ (.head _)).1 (hk6 _ _ hxe) (fun t7 h7 tk7 hk7 => ?_))
  have F7 := F6.keeps hk7
  have N7 := N6.grown hk7

  refine hret _ _ _ (fun b o e => ?_)
  by_cases hb : b ∈ [(x, accObj dx its n), (dx, dictOf es nd)].map (·.1)
  · obtain ⟨q, hq, rfl⟩ := List.mem_map.mp hb
    rw [(N q hq).1] at e
    rw [← Option.some.inj e]
    exact (N7 q (.tail _ (.tail _ hq))).1
  · exact F7.keep b o (kg' b o e hb)
end
section
local macro_rules | `(tactic| k_inst) => `(tactic| exact Mine.acc_inst (by k_asm) (by k_mem) (by k_mem))
local macro_rules | `(tactic| walk_at "getMethod ref") => `(tactic| walk_at "M gm")
local macro_rules | `(tactic| walk_at "call ref") => `(tactic| walk_at "M stop")
theorem popC {w : World} {p : Program} {loose : List Str} {mean : ExcName → Option Value} {mg mb : Str → Option Value} (x dx : Addr) (ys : List Value) (v : Value) (n : Nat) (es : List DictEntry) (nd : Nat)
    (dp un : Nat) (gd : Option (List Code)) (cn : Str) (cs : Scope) (a : Addr) (ccd : Value) (cl : List (Str × Addr)) (outer : List Env) (A₀ : Around) (base h₀ : Heap) (L : Addr) (m : Str → Option Value) (s : Shared) (Q E : Value → Shared → Prop)
    (N : News h₀ L s.heap [(x, accObj dx (List.toArray (ys ++ [v])) n), (dx, dictOf es nd)]) (hz : ys.length ≤ 90) (ho : lookIn "part_count" (dictOf es nd) = some none)
    (B : Below A₀ base outer h₀) (F : Fr h₀ L s.heap m) (X : (Mine.hd.heap_1 w.params).In h₀) (T : Top p loose mean mg mb h₀) (hk : cs.kind = .function) (hd : dp + 16 < recursionLimit) (hu : un + 300 < cLine)
    (hret : ∀ h' tk' n', (∀ b o, b ≠ x → s.heap.get? b = some o → h'.get? b = some o) → h'.get? x = some (accObj dx ys.toArray n') → Q v { s with heap := h', toks := tk' }) :
    wpAny (model PySem.Challenge.rw_ik0127_01.row.prog w) (ktrTop dp un gd cn cs L a ccd cl outer) (call (.ref 155) [.ref x]) Q E s := by
  revert X T; k_fill; intro X T
  refine wpAny_call ?_
  (refine' Mine.enterS ?kN ?k1 ?k2 ?k3 ?k5 ?kA ?kF ?kK ?k6 ?k7 ?k8 ?k9 ?kB ?_ ?c1 ?c2 ?c3 ?c4; (case kA | kF => exact rfl); (case kK | kN => assumption); (case k1 | k2 | k3 | k5 => k_asm); (case k6 | k7 => k_is); (case k8 => ktr_room); (case k9 => exact BindsTo.of_eq rfl); (case kB => exact locs rfl); (case c1 => decide); (case c2 | c3 | c4 => exact rfl); intro _ _ _ _ _ _ _ _ _ _)
  rename_i L' h' g' kg' F' N' B' X' T' kn'
  iterate 4 walk_at "M w"
  repeat' (first | walk_at "M w" | (dsimp only; walk_at "M w"))
  rename Fr _ _ _ _ => F5
  rename News _ _ _ _ => N5
  apply Mine.partC (its := List.toArray (ys ++ [v])) (n := n) (dx := dx) (es := es) (nd := nd)
  ((case B | F | X | T => k_asm); (case hk => with_unfolding_all rfl); (case hd | hu => first | omega | decide | (simp only [ktrTop]; omega)))
  case N => exact N5
  case hz => simp; omega
  case hret =>
    intro t6 h6 tk6 hk6
    replace F5 := F5.keeps hk6
    replace N5 := N5.grown hk6
    have hne : (((List.toArray (ys ++ [v])).size : Int) == 0) = false := by
      rw [beq_eq_false_iff_ne]
      simp
      omega
    iterate 3 walk_at "M w"
    rw [if_neg (by rw [hne]; decide)]
    iterate 3 walk_at "M w"
    dsimp only
    refine ks_wpAt_execs_cons (ks_wpAt_Return_some (ks_wpAt_MethodCall ?_))
    walk_at "M w"
    rename Fr _ _ _ _ => F7
    rename News _ _ _ _ => N7
    have hxe := (N7 (x, accObj dx (List.toArray (ys ++ [v])) n) (by k_mem)).1
    refine Mine.super_method (o' := { cls := .type "builtin_function_or_method", data := .fields #[.builtin "list.pop", .ref x] }) (T := "method_descriptor") (gid := "method_descriptor.__get__") F7 X' N7 (by k_mem) (Mine.acc_inst N7 (by k_mem) (by k_mem)) (by k_is) (by ks_is) (fun A Q E s q => (Looks.of_pure (h := s.heap) PySem.F.type_list_pop : Looks _ _ (typeOf (.builtin "list.pop")) (.type "method_descriptor")) A Q E s (fun _ _ e => e) q) (by rw [typeLookup_type, builtinLookup_eq_fast]; kernel_rfl) (by decide)
      (fun A Q E s' e hend => bindPop (by rw [e]; exact X'.keeps F7.keep) (by rw [e]; exact hxe) hend) ?_
    intro q8 h8 tk8 F8 N8 hq8 hk8
    refine Mine.callWith_0 (N8 _ (.head _)).1 (.inr rfl) (Mine.callPop (X'.keeps F8.keep) (Mine.acc_inst N8 (by k_mem) (by k_mem)) (by omega) (N8 _ (.head _)).1 (fun h9 n9 hs9 hx9 => ?_))
    refine hret h9 _ n9 (fun b o hb e => hs9.extBut b o hb ?_) hx9
    by_cases hb2 : b = dx
    · have e2 := (N _ (.tail _ (.head _))).1
      simp only at e2
      rw [hb2, e2] at e
      rw [hb2, ← Option.some.inj e]
      exact (N8 (dx, dictOf es nd) (by k_mem)).1
    · exact F8.keep b o (kg' b o e (by simp only [List.map_cons, List.map_nil, List.mem_cons, List.not_mem_nil, or_false]; rintro (h | h); exact hb h; exact hb2 h))
end
section
theorem slice_fits {its : Array Value} {a b : Nat} : (its.extract 0 a ++ #[] ++ its.extract b its.size).size ≤ its.size + its.size := by
  simp only [Array.size_append, Array.size_extract, List.size_toArray, List.length_nil]
  exact Nat.add_le_add (Nat.min_le_right a _) (Nat.le_trans (Nat.sub_le _ _) (Nat.min_le_left _ _))
theorem popFromC {w : World} {p : Program} {loose : List Str} {mean : ExcName → Option Value} {mg mb : Str → Option Value} (x dx : Addr) (vs : List Value) (k : Nat) (u : Tok) (n : Nat) (es : List DictEntry) (nd : Nat)
    (dp un : Nat) (gd : Option (List Code)) (cn : Str) (cs : Scope) (a : Addr) (ccd : Value) (cl : List (Str × Addr)) (outer : List Env) (A₀ : Around) (base h₀ : Heap) (L : Addr) (m : Str → Option Value) (s : Shared) (Q E : Value → Shared → Prop)
    (N : News h₀ L s.heap [(x, accObj dx vs.toArray n), (dx, dictOf es nd)]) (hz : vs.length ≤ 90) (hk' : k ≤ vs.length)
    (B : Below A₀ base outer h₀) (F : Fr h₀ L s.heap m) (X : (Mine.hd.heap_1 w.params).In h₀) (T : Top p loose mean mg mb h₀) (hk : cs.kind = .function) (hd : dp + 16 < recursionLimit) (hu : un + 300 < cLine)
    (hret : ∀ D h' tk' n', (∀ b o, b ≠ x → s.heap.get? b = some o → h'.get? b = some o) → h'.get? x = some (accObj dx (vs.take k).toArray n') → s.heap.get? D = none → (∃ c, h'.get? D = some (PySem.W.listOf (List.toArray (vs.drop k)) c)) → Q (.ref D) { s with heap := h', toks := tk' }) :
    wpAny (model PySem.Challenge.rw_ik0127_01.row.prog w) (ktrTop dp un gd cn cs L a ccd cl outer) (call (.ref 147) [.ref x, .int (k : Int) u]) Q E s := by
  revert X T; k_fill; intro X T
  refine wpAny_call ?_
  k_dflt (refine' Mine.enterN ?kN ?k1 ?k2 ?k3 ?k5 ?kA ?kF ?kK ?k6 ?k7 ?k8 ?k9 ?kB ?_ ?c2 ?c3 ?c4 ?c5; (case kA | kF => exact rfl); (case kK | kN => assumption); (case k1 | k2 | k3 | k5 => k_asm); (case k6 | k7 => k_is); (case k8 => ktr_room); (case k9 => exact binds_K (by k_in) rfl (by k_is) rfl rfl rfl); (case c5 => decide); (case kB => exact locs rfl); (case c2 | c3 | c4 => exact rfl); k_whole; intro _ _ _ _ _ _ _ _ _ _; (try dsimp only); (try k_fold))
  rename_i L' h' g' kg' F' N' B' X' T' kn'

  iterate 10 walk_at "M w"

  have hx0 := (N' (x, accObj dx vs.toArray n) (by k_mem)).1
  have hd0 := (N' (dx, dictOf es nd) (by k_mem)).1
  have ups : ∀ b o, h'.get? b = some o → (h'.push { cls := .type "slice", data := .fields #[.int (k : Int) u, .none, .none] }).get? b = some o := fun b o e => Heap.get?_push_of_some _ e
  have I1 : InstAt (h'.push { cls := .type "slice", data := .fields #[.int (k : Int) u, .none, .none] }) x (accObj dx vs.toArray n) 195 (some (dictOf es nd)) := ⟨ups _ _ hx0, rfl, rfl, ups _ _ hd0⟩
  apply Mine.tail_acc (dx := dx) (its := vs.toArray) (n := n) (od := dictOf es nd)
  case hs => with_unfolding_all rfl
  case X => exact (X'.keeps F'.keep).keeps ups
  case I => exact I1
  case hg =>
  apply Mine.slice_acc (dx := dx) (its := vs.toArray) (n := n) (od := dictOf es nd)
  case X => exact (X'.keeps F'.keep).keeps ups
  case I => exact I1
  case hs => exact Heap.IsSliceOf.new ..
  case hz => rw [sizeLine_eq]; simp; lia
  case h =>
  have F2 := (F'.push { cls := .type "slice", data := .fields #[.int (k : Int) u, .none, .none] }).push { cls := .type "list", data := .seq (slicePick vs.toArray (some (k : Int)) none none) }
  have N2 := News.push (F'.push { cls := .type "slice", data := .fields #[.int (k : Int) u, .none, .none] }) (N'.grown ups) { cls := .type "list", data := .seq (slicePick vs.toArray (some (k : Int)) none none) }
  rw [pick_tail vs (k : Int) (by lia), Int.toNat_natCast] at F2 N2 ⊢

  iterate 8 walk_at "M w"
  iterate 4 walk_at "M w"

  rename Fr _ _ _ _ => F3
  rename News _ _ _ _ => N3
  rename_i l3 h3 _
  have hx3 := (N3 (x, accObj dx vs.toArray n) (by k_mem)).1
  have hd3 := (N3 (dx, dictOf es nd) (by k_mem)).1
  have hl3 : x ≠ l3 := news_ne N3 (o1 := accObj dx vs.toArray n) (by k_mem) (.head _) (by intro e; cases e)
  have ups3 : ∀ b o, h3.get? b = some o → (h3.push { cls := .type "slice", data := .fields #[.int (k : Int) u, .none, .none] }).get? b = some o := fun b o e => Heap.get?_push_of_some _ e
  have I3 : InstAt (h3.push { cls := .type "slice", data := .fields #[.int (k : Int) u, .none, .none] }) x (accObj dx vs.toArray n) 195 (some (dictOf es nd)) := ⟨ups3 _ _ hx3, rfl, rfl, ups3 _ _ hd3⟩
  apply Mine.setslice_acc (dx := dx) (its := vs.toArray) (n := n) (od := dictOf es nd) (new := #[]) (lo := some (k : Int))
  case X => exact (X'.keeps F3.keep).keeps ups3
  case I => exact I3
  case hl => exact ⟨_, ups3 _ _ (N3 _ (.head _)).1, rfl, _, rfl⟩
  case hxl => exact hl3
  case hs => exact Heap.IsSliceOf.new ..
  case pl => exact .int _ _
  case hz => simp; lia
  case hz2 => simp
  case hfit =>
    have := slice_fits (its := vs.toArray) (a := (sliceBounds (some (k : Int)) none none vs.toArray.size).1.toNat) (b := (max (sliceBounds (some (k : Int)) none none vs.toArray.size).1 (sliceBounds (some (k : Int)) none none vs.toArray.size).2.1).toNat)
    rw [sizeLine_eq]
    exact Nat.le_trans this (Nat.le_trans (Nat.add_le_add hz hz) (by decide))
  case h =>
    intro h9 n9 hs9 hx9
    have zx := N3 (x, accObj dx vs.toArray n) (by k_mem)
    have F9 := (F3.push { cls := .type "slice", data := .fields #[.int (k : Int) u, .none, .none] }).change hs9 zx.2.1 zx.2.2
    have zD := N3 (_, { cls := .type "list", data := .seq (vs.drop k).toArray }) (.tail _ (.head _))
    have nDx := news_ne N3 (o1 := { cls := .type "list", data := .seq (vs.drop k).toArray }) (o2 := accObj dx vs.toArray n) (.tail _ (.head _)) (by k_mem) (by intro e; cases e)
    have nDd := news_ne N3 (o1 := { cls := .type "list", data := .seq (vs.drop k).toArray }) (o2 := dictOf es nd) (.tail _ (.head _)) (by k_mem) (by intro e; exact absurd (Value.type.inj e) (by decide))
    have hb9 : (vs.toArray.extract 0 (sliceBounds (some (k : Int)) none none vs.toArray.size).1.toNat ++ #[] ++ vs.toArray.extract (max (sliceBounds (some (k : Int)) none none vs.toArray.size).1 (sliceBounds (some (k : Int)) none none vs.toArray.size).2.1).toNat vs.toArray.size) = (vs.take k).toArray := by
      have h1 : (sliceBounds (some (k : Int)) none none vs.toArray.size).1 = (k : Int) := by
        unfold sliceBounds
        simp
        rw [if_neg (Int.not_lt.mpr (Int.natCast_nonneg k)), Int.min_eq_left (Int.ofNat_le.mpr (by assumption)), Int.max_eq_right (Int.natCast_nonneg k)]
      have h2 : (sliceBounds (some (k : Int)) none none vs.toArray.size).2.1 = (vs.length : Int) := by
        unfold sliceBounds
        simp
      rw [h1, h2, nb13 (Nat.le_of_lt_succ (Nat.lt_succ_of_le (by assumption)))]
      simp
    rw [hb9] at hx9
    iterate 4 walk_at "M w"
    refine hret _ _ _ n9 (fun b o hb e => hs9.extBut b o hb (ups3 b o ?_)) hx9 (gone_of kg' (by simp only [List.map_cons, List.map_nil, List.mem_cons, List.not_mem_nil, or_false]; rintro (h | h); exact nDx h; exact nDd h) zD.2.2) ⟨0, hs9.extBut _ _ nDx (ups3 _ _ zD.1)⟩
    by_cases hb2 : b = dx
    · have e2 := (N _ (.tail _ (.head _))).1
      simp only at e2
      rw [hb2, e2] at e
      rw [hb2, ← Option.some.inj e]
      exact hd3
    · exact F3.keep b o (kg' b o e (by simp only [List.map_cons, List.map_nil, List.mem_cons, List.not_mem_nil, or_false]; rintro (h | h); exact hb h; exact hb2 h))
end
section
theorem PartsAt.keepT {h h' : Heap} {its : Array Value} {ps : List (Str × Str)} (hP : PartsAt h its ps) (k : ∀ b o, o.cls = .type "tuple" → h.get? b = some o → h'.get? b = some o) : PartsAt h' its ps :=
  hP.keeps fun ta vs ⟨o, ho, hc, r⟩ => ⟨o, k _ _ hc ho, hc, r⟩
/-- what is no ledger's object stays -/
theorem keep_not {h₀ s g : Heap} {L : Addr} {news : List (Addr × Obj)} {c : Value} (N : News h₀ L s news) (kg : ∀ b o, s.get? b = some o → b ∉ news.map (·.1) → g.get? b = some o) (hc : ∀ q ∈ news, q.2.cls ≠ c) : ∀ b o, o.cls = c → s.get? b = some o → g.get? b = some o := fun b o ho e => by
  refine kg b o e fun hb => ?_
  obtain ⟨q, hq, rfl⟩ := List.mem_map.mp hb
  have := (N q hq).1
  rw [e] at this
  exact hc q hq (Option.some.inj this ▸ ho)
/-- after a callee that changed objects of the ledger alone -/
theorem Fr.but {h₀ h h' : Heap} {L : Addr} {m : Str → Option Value} {news : List (Addr × Obj)} (F : Fr h₀ L h m) (N : News h₀ L h news) (ks : List Addr) (hks : ∀ k ∈ ks, k ∈ news.map (·.1)) (hx : ∀ b o, b ∉ ks → h.get? b = some o → h'.get? b = some o) : Fr h₀ L h' m := by
  have key : ∀ k ∈ ks, k ≠ L ∧ h₀.get? k = none := fun k hk => by
    obtain ⟨q, hq, rfl⟩ := List.mem_map.mp (hks k hk)
    exact (N q hq).2
  refine ⟨?_, fun b o e => hx b o (fun hb => ?_) (F.keep b o e), F.above⟩
  · obtain ⟨o, es, ep, e, r⟩ := F.ns
    exact ⟨o, es, ep, hx L o (fun hb => (key L hb).1 rfl) e, r⟩
  · rw [(key b hb).2] at e; cases e
theorem News.tell {h₀ h h' : Heap} {L p : Addr} {o o' : Obj} {news rest : List (Addr × Obj)} (N : News h₀ L h news) (hm : (p, o) ∈ news) (ht : h'.get? p = some o') (R : News h₀ L h' rest) : News h₀ L h' ((p, o') :: rest) := fun q hq => by
  rcases List.mem_cons.mp hq with rfl | hq
  · exact ⟨ht, (N _ hm).2⟩
  · exact R q hq
theorem cls_ne {a b : String} {v w : Value} (hv : v = .type a) (hw : w = .type b) (h : a ≠ b) : v ≠ w := fun e => h (by rw [hv, hw] at e; exact Value.type.inj e)
end
section
/-- the dictionary of an accumulator -/
noncomputable abbrev iniD (hsh : Int) (tk u : Tok) (nd : Nat) : Obj := dictOf [⟨hsh, .str (Str.ofString "_initial_size") tk, .int 0 u⟩] nd
theorem slice_all {vs new : List Value} : (vs.toArray.extract 0 (sliceBounds none none none vs.toArray.size).1.toNat ++ new.toArray ++ vs.toArray.extract (max (sliceBounds none none none vs.toArray.size).1 (sliceBounds none none none vs.toArray.size).2.1).toNat vs.toArray.size) = new.toArray := by
  have h1 : (sliceBounds none none none vs.toArray.size).1 = 0 := by
    unfold sliceBounds
    simp
  have h2 : (sliceBounds none none none vs.toArray.size).2.1 = (vs.length : Int) := by
    unfold sliceBounds
    simp
  rw [h1, h2, show (max (0 : Int) (vs.length : Int)).toNat = vs.length from nb13 (qa := 0) (Nat.zero_le _)]
  simp
theorem slice_all0 {vs : List Value} : (vs.toArray.extract 0 (sliceBounds none none none vs.toArray.size).1.toNat ++ #[] ++ vs.toArray.extract (max (sliceBounds none none none vs.toArray.size).1 (sliceBounds none none none vs.toArray.size).2.1).toNat vs.toArray.size) = #[] := slice_all (new := [])
theorem resetC1 {w : World} {p : Program} {loose : List Str} {mean : ExcName → Option Value} {mg mb : Str → Option Value} (x dx l : Addr) (vs new : List Value) (n c : Nat) (hsh : Int) (tk0 u0 : Tok) (nd : Nat)
    (dp un : Nat) (gd : Option (List Code)) (cn : Str) (cs : Scope) (a : Addr) (ccd : Value) (cl : List (Str × Addr)) (outer : List Env) (A₀ : Around) (base h₀ : Heap) (L : Addr) (m : Str → Option Value) (s : Shared) (Q E : Value → Shared → Prop)
    (N : News h₀ L s.heap [(l, PySem.W.listOf new.toArray c), (x, accObj dx vs.toArray n), (dx, iniD hsh tk0 u0 nd)]) (hz : vs.length ≤ 90) (hz2 : new.length ≤ 90)
    (B : Below A₀ base outer h₀) (F : Fr h₀ L s.heap m) (X : (Mine.hd.heap_1 w.params).In h₀) (T : Top p loose mean mg mb h₀) (hk : cs.kind = .function) (hd : dp + 16 < recursionLimit) (hu : un + 300 < cLine)
    (hret : ∀ h' tk' n' u', (∀ b o, b ≠ x → b ≠ dx → s.heap.get? b = some o → h'.get? b = some o) → h'.get? x = some (accObj dx new.toArray n') → h'.get? dx = some (iniD hsh tk0 u' nd) → Q .none { s with heap := h', toks := tk' }) :
    wpAny (model PySem.Challenge.rw_ik0127_01.row.prog w) (ktrTop dp un gd cn cs L a ccd cl outer) (call (.ref 177) [.ref x, .ref l]) Q E s := by
  revert X T; k_fill; intro X T
  refine wpAny_call ?_
  k_dflt (refine' Mine.enterN ?kN ?k1 ?k2 ?k3 ?k5 ?kA ?kF ?kK ?k6 ?k7 ?k8 ?k9 ?kB ?_ ?c2 ?c3 ?c4 ?c5; (case kA | kF => exact rfl); (case kK | kN => assumption); (case k1 | k2 | k3 | k5 => k_asm); (case k6 | k7 => k_is); (case k8 => ktr_room); (case k9 => exact binds_K (by k_in) rfl (by k_is) rfl rfl rfl); (case c5 => decide); (case kB => exact locs rfl); (case c2 | c3 | c4 => exact rfl); k_whole; intro _ _ _ _ _ _ _ _ _ _; (try dsimp only); (try k_fold))
  rename_i L' h' g' kg' F' N' B' X' T' kn'
  iterate 14 walk_at "M w"
  iterate 4 walk_at "M w"
  have hx0 := (N' (x, accObj dx vs.toArray n) (by k_mem)).1
  have hd0 := (N' (dx, iniD hsh tk0 u0 nd) (by k_mem)).1
  have hl0 := (N' (l, PySem.W.listOf new.toArray c) (by k_mem)).1
  have hxl : x ≠ l := news_ne N' (o1 := accObj dx vs.toArray n) (by k_mem) (.head _) (by intro e; cases e)
  have hxd : x ≠ dx := news_ne N' (o1 := accObj dx vs.toArray n) (o2 := iniD hsh tk0 u0 nd) (by k_mem) (by k_mem) (by intro e; cases e)
  have hld : l ≠ dx := news_ne N' (o1 := PySem.W.listOf new.toArray c) (o2 := iniD hsh tk0 u0 nd) (by k_mem) (by k_mem) (by intro e; exact absurd (Value.type.inj e) (by decide))
  have ups : ∀ b o, h'.get? b = some o → (h'.push { cls := .type "slice", data := .fields #[.none, .none, .none] }).get? b = some o := fun b o e => Heap.get?_push_of_some _ e
  have I1 : InstAt (h'.push { cls := .type "slice", data := .fields #[.none, .none, .none] }) x (accObj dx vs.toArray n) 195 (some (iniD hsh tk0 u0 nd)) := ⟨ups _ _ hx0, rfl, rfl, ups _ _ hd0⟩
  apply Mine.setslice_acc (dx := dx) (its := vs.toArray) (n := n) (od := iniD hsh tk0 u0 nd) (new := new.toArray) (lo := none)
  case X => exact (X'.keeps F'.keep).keeps ups
  case I => exact I1
  case hl => exact ⟨_, ups _ _ hl0, rfl, _, rfl⟩
  case hxl => exact hxl
  case hs => exact Heap.IsSliceOf.new ..
  case pl => exact .none
  case hz => simp; lia
  case hz2 => simp; lia
  case hfit =>
    rw [sizeLine_eq, slice_all]
    simp; lia
  case h =>
    intro h9 n9 hs9 hx9
    rw [slice_all] at hx9
    have zx := N' (x, accObj dx vs.toArray n) (by k_mem)
    have zd := N' (dx, iniD hsh tk0 u0 nd) (by k_mem)
    have F9 := (F'.push { cls := .type "slice", data := .fields #[.none, .none, .none] }).change hs9 zx.2.1 zx.2.2
    have hd9 := hs9.extBut _ _ hxd.symm (ups _ _ hd0)
    have N9 : News g' L' h9 [(dx, iniD hsh tk0 u0 nd)] := fun q hq => by
      rcases List.mem_singleton.mp hq with rfl
      exact ⟨hd9, zd.2⟩
    have I9 : InstAt h9 x (accObj dx new.toArray n9) 195 (some (iniD hsh tk0 u0 nd)) := ⟨hx9, rfl, rfl, hd9⟩
    iterate 5 walk_at "M w"
    refine Mine.set_acc (pre := []) (post := []) (od := iniD hsh tk0 u0 nd) (od' := iniD hsh tk0 _ nd) F9 N9 X' I9.at_ (fun _ h => nomatch h) (fun _ h => nomatch h) rfl ((putName_dict _ _ _ _ _ _).trans rfl) (by kernel_rfl) fun hA FA NA hsA => ?_
    repeat walk_at "M w"
    refine hret hA _ n9 _ (fun b o hb hb2 e => hsA.extBut b o hb2 (hs9.extBut b o hb (ups b o ?_))) (hsA.extBut _ _ hxd hx9) (NA _ (.head _)).1
    by_cases hb3 : b = l
    · have e2 := (N _ (.head _)).1
      simp only at e2
      rw [hb3, e2] at e
      rw [hb3, ← Option.some.inj e]
      exact hl0
    · exact F'.keep b o (kg' b o e (by simp only [List.map_cons, List.map_nil, List.mem_cons, List.not_mem_nil, or_false]; rintro (h | h | h); exact hb3 h; exact hb h; exact hb2 h))
theorem resetC0 {w : World} {p : Program} {loose : List Str} {mean : ExcName → Option Value} {mg mb : Str → Option Value} (x dx : Addr) (vs : List Value) (n : Nat) (hsh : Int) (tk0 u0 : Tok) (nd : Nat)
    (dp un : Nat) (gd : Option (List Code)) (cn : Str) (cs : Scope) (a : Addr) (ccd : Value) (cl : List (Str × Addr)) (outer : List Env) (A₀ : Around) (base h₀ : Heap) (L : Addr) (m : Str → Option Value) (s : Shared) (Q E : Value → Shared → Prop)
    (N : News h₀ L s.heap [(x, accObj dx vs.toArray n), (dx, iniD hsh tk0 u0 nd)]) (hz : vs.length ≤ 90)
    (B : Below A₀ base outer h₀) (F : Fr h₀ L s.heap m) (X : (Mine.hd.heap_1 w.params).In h₀) (T : Top p loose mean mg mb h₀) (hk : cs.kind = .function) (hd : dp + 16 < recursionLimit) (hu : un + 300 < cLine)
    (hret : ∀ h' tk' n' u', (∀ b o, b ≠ x → b ≠ dx → s.heap.get? b = some o → h'.get? b = some o) → h'.get? x = some (accObj dx #[] n') → h'.get? dx = some (iniD hsh tk0 u' nd) → Q .none { s with heap := h', toks := tk' }) :
    wpAny (model PySem.Challenge.rw_ik0127_01.row.prog w) (ktrTop dp un gd cn cs L a ccd cl outer) (call (.ref 177) [.ref x]) Q E s := by
  revert X T; k_fill; intro X T
  refine wpAny_call ?_
  k_dflt (refine' Mine.enterN ?kN ?k1 ?k2 ?k3 ?k5 ?kA ?kF ?kK ?k6 ?k7 ?k8 ?k9 ?kB ?_ ?c2 ?c3 ?c4 ?c5; (case kA | kF => exact rfl); (case kK | kN => assumption); (case k1 | k2 | k3 | k5 => k_asm); (case k6 | k7 => k_is); (case k8 => ktr_room); (case k9 => exact binds_K (by k_in) rfl (by k_is) rfl rfl rfl); (case c5 => decide); (case kB => exact locs rfl); (case c2 | c3 | c4 => exact rfl); k_whole; intro _ _ _ _ _ _ _ _ _ _; (try dsimp only); (try k_fold))
  rename_i L' h' g' kg' F' N' B' X' T' kn'
  iterate 24 (walk_at "M w")
  rename Fr _ _ _ _ => F3
  rename News _ _ _ _ => N3
  rename_i l _ _ h3 _
  have hx0 := (N3 (x, accObj dx vs.toArray n) (by k_mem)).1
  have hd0 := (N3 (dx, iniD hsh tk0 u0 nd) (by k_mem)).1
  have hl0 := (N3 (l, PySem.W.listOf #[] 0) (by k_mem)).1
  have hxl : x ≠ l := news_ne N3 (o1 := accObj dx vs.toArray n) (by k_mem) (.head _) (by intro e; cases e)
  have hxd : x ≠ dx := news_ne N3 (o1 := accObj dx vs.toArray n) (o2 := iniD hsh tk0 u0 nd) (by k_mem) (by k_mem) (by intro e; cases e)
  have hld : l ≠ dx := news_ne N3 (o1 := PySem.W.listOf #[] 0) (o2 := iniD hsh tk0 u0 nd) (by k_mem) (by k_mem) (by intro e; exact absurd (Value.type.inj e) (by decide))
  have ups : ∀ b o, h3.get? b = some o → (h3.push { cls := .type "slice", data := .fields #[.none, .none, .none] }).get? b = some o := fun b o e => Heap.get?_push_of_some _ e
  have I1 : InstAt (h3.push { cls := .type "slice", data := .fields #[.none, .none, .none] }) x (accObj dx vs.toArray n) 195 (some (iniD hsh tk0 u0 nd)) := ⟨ups _ _ hx0, rfl, rfl, ups _ _ hd0⟩
  apply Mine.setslice_acc (dx := dx) (its := vs.toArray) (n := n) (od := iniD hsh tk0 u0 nd) (new := #[]) (lo := none)
  case X => exact (X'.keeps F3.keep).keeps ups
  case I => exact I1
  case hl => exact ⟨_, ups _ _ hl0, rfl, _, rfl⟩
  case hxl => exact hxl
  case hs => exact Heap.IsSliceOf.new ..
  case pl => exact .none
  case hz => simp; lia
  case hz2 => simp <;> lia
  case hfit =>
    rw [sizeLine_eq, slice_all0]
    simp <;> lia
  case h =>
    intro h9 n9 hs9 hx9
    rw [slice_all0] at hx9
    have zx := N3 (x, accObj dx vs.toArray n) (by k_mem)
    have zd := N3 (dx, iniD hsh tk0 u0 nd) (by k_mem)
    have F9 := (F3.push { cls := .type "slice", data := .fields #[.none, .none, .none] }).change hs9 zx.2.1 zx.2.2
    have hd9 := hs9.extBut _ _ hxd.symm (ups _ _ hd0)
    have N9 : News g' L' h9 [(dx, iniD hsh tk0 u0 nd)] := fun q hq => by
      rcases List.mem_singleton.mp hq with rfl
      exact ⟨hd9, zd.2⟩
    have I9 : InstAt h9 x (accObj dx #[] n9) 195 (some (iniD hsh tk0 u0 nd)) := ⟨hx9, rfl, rfl, hd9⟩
    iterate 5 walk_at "M w"
    refine Mine.set_acc (pre := []) (post := []) (od := iniD hsh tk0 u0 nd) (od' := iniD hsh tk0 _ nd) F9 N9 X' I9.at_ (fun _ h => nomatch h) (fun _ h => nomatch h) rfl ((putName_dict _ _ _ _ _ _).trans rfl) (by kernel_rfl) fun hA FA NA hsA => ?_
    repeat walk_at "M w"
    refine hret hA _ n9 _ (fun b o hb hb2 e => hsA.extBut b o hb2 (hs9.extBut b o hb (ups b o ?_))) (hsA.extBut _ _ hxd hx9) (NA _ (.head _)).1
    exact F3.keep b o (kg' b o e (by simp only [List.map_cons, List.map_nil, List.mem_cons, List.not_mem_nil, or_false]; rintro (h | h); exact hb h; exact hb2 h))
end
section
theorem sum_le {ps : List (Str × Str)} (hlen : ps.length ≤ 10) (hsz : ∀ q ∈ ps, q.1.length ≤ 100 ∧ q.2.length ≤ 100) : (ps.map fun q => (q.1.length : Int) + (q.2.length : Int)).sum ≤ 2000 := by
  have key : ∀ l : List (Str × Str), (∀ q ∈ l, q.1.length ≤ 100 ∧ q.2.length ≤ 100) → (l.map fun q => (q.1.length : Int) + (q.2.length : Int)).sum ≤ 200 * l.length := by
    intro l
    induction l with
    | nil => intro _; simp
    | cons q l ih =>
      intro h
      have h1 := h q (.head _)
      have h2 := ih fun r hr => h r (.tail _ hr)
      simp only [List.map_cons, List.sum_cons, List.length_cons]
      rw [Int.natCast_add, Int.mul_add, Int.add_comm]
      exact Int.add_le_add h2 (Int.le_trans (show ((q.1.length + q.2.length : Nat) : Int) ≤ ((200 : Nat) : Int) from Int.ofNat_le.mpr (Nat.add_le_add h1.1 h1.2)) (by decide))
  exact Int.le_trans (key ps hsz) (Int.mul_le_mul_of_nonneg_left (Int.ofNat_le.mpr hlen) (by decide : (0 : Int) ≤ 200))
theorem onlyC {w : World} {p : Program} {loose : List Str} {mean : ExcName → Option Value} {mg mb : Str → Option Value} (x dx : Addr) (its : Array Value) (n : Nat) (hsh : Int) (tk0 u0 : Tok) (nd : Nat) (ps : List (Str × Str)) (tb1 tb2 : Option Addr)
    (dp un : Nat) (gd : Option (List Code)) (cn : Str) (cs : Scope) (a : Addr) (ccd : Value) (cl : List (Str × Addr)) (outer : List Env) (A₀ : Around) (base h₀ : Heap) (L : Addr) (m : Str → Option Value) (s : Shared) (Q E : Value → Shared → Prop)
    (N : News h₀ L s.heap [(157, tabObj (tabG 94 19 tb1)), (164, tabObj (tabG 97 32 tb2)), (x, accObj dx its n), (dx, iniD hsh tk0 u0 nd)]) (hP : PartsAt s.heap its ps) (hlen : ps.length ≤ 10) (hsz : ∀ q ∈ ps, q.1.length ≤ 100 ∧ q.2.length ≤ 100)
    (hpos : 0 < (ps.map fun q => (q.1.length : Int) + (q.2.length : Int)).sum) (hsp : Txt.isspace (catS ps) = false)
    (C1 : CodeHd base 161 157) (C2 : CodeHd base 168 164) (hg : AllBare s.gens)
    (B : Below A₀ base outer h₀) (F : Fr h₀ L s.heap m) (X : (Mine.hd.heap_1 w.params).In h₀) (T : Top p loose mean mg mb h₀) (hk : cs.kind = .function) (hd : dp + 16 < recursionLimit) (hu : un + 300 < cLine)
    (hret : ∀ h' tk' gs' d' c1 c2, AllBare gs' → (∀ b o, b ≠ 157 → b ≠ 164 → s.heap.get? b = some o → h'.get? b = some o) → h'.get? 157 = some (tabObj (tabG 94 19 (some c1))) → h'.get? 164 = some (tabObj (tabG 97 32 (some c2))) → Q (.bool false) { s with heap := h', toks := tk', gens := gs', drawn := d' }) :
    wpAny (model PySem.Challenge.rw_ik0127_01.row.prog w) (ktrTop dp un gd cn cs L a ccd cl outer) (call (.ref 184) [.ref x]) Q E s := by
  revert X T; k_fill; intro X T
  refine wpAny_call ?_
  k_dflt (refine' Mine.enterN ?kN ?k1 ?k2 ?k3 ?k5 ?kA ?kF ?kK ?k6 ?k7 ?k8 ?k9 ?kB ?_ ?c2 ?c3 ?c4 ?c5; (case kA | kF => exact rfl); (case kK | kN => assumption); (case k1 | k2 | k3 | k5 => k_asm); (case k6 | k7 => k_is); (case k8 => ktr_room); (case k9 => exact BindsTo.of_eq rfl); (case c5 => decide); (case kB => exact locs rfl); (case c2 | c3 | c4 => exact rfl); k_whole; intro _ _ _ _ _ _ _ _ _ _; (try dsimp only); (try k_fold))
  rename_i L' h' g' kg' F' N' B' X' T' kn'
  have hP' : PartsAt h' its ps := hP.keepT fun b o hc e => F'.keep b o (keep_not N kg' (by simp) b o hc e)
  have hx0 := (N' (x, accObj dx its n) (by k_mem)).1
  have hd0 := (N' (dx, iniD hsh tk0 u0 nd) (by k_mem)).1
  have hT1 := (N' (157, tabObj (tabG 94 19 tb1)) (by k_mem)).1
  have hT2 := (N' (164, tabObj (tabG 97 32 tb2)) (by k_mem)).1
  have I' : InstAt h' x (accObj dx its n) 195 (some (iniD hsh tk0 u0 nd)) := ⟨hx0, rfl, rfl, hd0⟩
  have hx1 : x ≠ 157 := news_ne N' (o1 := accObj dx its n) (o2 := tabObj (tabG 94 19 tb1)) (by k_mem) (by k_mem) (by intro e; cases e)
  have hd1 : dx ≠ 157 := news_ne N' (o1 := iniD hsh tk0 u0 nd) (o2 := tabObj (tabG 94 19 tb1)) (by k_mem) (by k_mem) (by intro e; cases e)
  have hx2 : x ≠ 164 := news_ne N' (o1 := accObj dx its n) (o2 := tabObj (tabG 97 32 tb2)) (by k_mem) (by k_mem) (by intro e; cases e)
  have hd2 : dx ≠ 164 := news_ne N' (o1 := iniD hsh tk0 u0 nd) (o2 := tabObj (tabG 97 32 tb2)) (by k_mem) (by k_mem) (by intro e; cases e)
  repeat (first | walk_at "M w")
  refine Mine.get_acc (X'.keeps F'.keep) (acc_inst N' (by k_mem) (by k_mem)) (by exact rfl) (by exact rfl) (by exact rfl) (findObj_own (by exact rfl) (by exact rfl) (by exact rfl) (by rfl)) rfl ?_
  iterate 8 walk_at "M w"
  refine not_value ?_
  apply Mine.truthy_lenK (C := 195) (f := 162) (ox := accObj dx its n) (od := some (iniD hsh tk0 u0 nd))
  case X => exact X'.keeps F'.keep
  case I => exact I'
  case hs => exact rfl
  case hl => exact rfl
  case hf => exact rfl
  case h =>
  apply Mine.lenC (ps := ps) (tb := tb1) (its := its) (n := n) (dx := dx) (nd := nd) (u := u0)
  ((case B | F | X | T => k_asm); (case hk => with_unfolding_all rfl); (case hd => cb_room); (case hu => cb_units))
  case hI => exact I'
  case hP => exact hP'
  case hod => rfl
  case hlen => exact hlen
  case hsz => exact hsz
  case N => exact fun q hq => N' q (by rcases List.mem_singleton.mp hq with rfl; k_mem)
  case C => exact C1
  case hg => exact hg
  case hret =>
    intro t5 h5 tk5 gs5 c5 hg5 hk5 hT5
    have hb := sum_le hlen hsz
    refine ⟨⟨Int.le_of_lt hpos, by omega⟩, _, _, rfl, ?_⟩
    rw [show ((ps.map fun q => (q.1.length : Int) + (q.2.length : Int)).sum != 0) = true from bne_iff_ne.mpr (by omega)]
    have N5 : News g' L' h5 [(157, tabObj (tabG 94 19 (some c5))), (164, tabObj (tabG 97 32 tb2)), (x, accObj dx its n), (dx, iniD hsh tk0 u0 nd)] :=
      Mine.News.tell (o := tabObj (tabG 94 19 tb1)) N' (by k_mem) hT5 (Mine.News.tell (o := tabObj (tabG 97 32 tb2)) N' (by k_mem) (hk5 _ _ (by decide) hT2) (Mine.News.tell (o := accObj dx its n) N' (by k_mem) (hk5 _ _ hx1 hx0) (Mine.News.tell (o := iniD hsh tk0 u0 nd) N' (by k_mem) (hk5 _ _ hd1 hd0) News.nil)))
    have F5 := Mine.Fr.but F' N' [157] (by intro k hk; rw [List.mem_singleton.mp hk]; exact .head _) (fun b o hb e => hk5 b o (by simpa using hb) e)
    have hP5 : PartsAt h5 its ps := hP'.keepT fun b o hc e => hk5 b o (fun q => by rw [q, hT1] at e; rw [← Option.some.inj e] at hc; cases hc) e
    have hT2' := (N5 (164, tabObj (tabG 97 32 tb2)) (by k_mem)).1
    have hx5 := (N5 (x, accObj dx its n) (by k_mem)).1
    have hd5 := (N5 (dx, iniD hsh tk0 u0 nd) (by k_mem)).1
    have I5 : InstAt h5 x (accObj dx its n) 195 (some (iniD hsh tk0 u0 nd)) := ⟨hx5, rfl, rfl, hd5⟩
    iterate 10 walk_at "M w"
    apply kso_call (C := 195) (f := 169) (ox := accObj dx its n) (od := some (iniD hsh tk0 u0 nd))
    case hu => cb_units
    case X => exact X'.keeps F5.keep
    case I => exact I5
    case hs => exact rfl
    case hf => exact rfl
    case h =>
    apply Mine.strC (ps := ps) (tb := tb2) (its := its) (n := n) (dx := dx) (nd := nd) (u := u0)
    ((case B | F | X | T => k_asm); (case hk => with_unfolding_all rfl); (case hd => cb_room); (case hu => cb_units))
    case hI => exact I5
    case hP => exact hP5
    case hod => rfl
    case hlen => exact hlen
    case hsz => exact hsz
    case N => exact fun q hq => N5 q (by rcases List.mem_singleton.mp hq with rfl; k_mem)
    case C => exact C2
    case hg => exact hg5
    case hret =>
      intro t6 h6 tk6 gs6 d6 c6 hg6 hk6 hT6
      have F6 := Mine.Fr.but F5 N5 [164] (by intro k hk; rw [List.mem_singleton.mp hk]; k_mem) (fun b o hb e => hk6 b o (by simpa using hb) e)
      show wpAny _ _ _ _ _ _
      repeat walk_at "M w"
      rw [hsp]
      have keep0 : ∀ b o, b ≠ 157 → b ≠ 164 → s.heap.get? b = some o → h'.get? b = some o := fun b o hb1 hb2 e => by
        by_cases hbx : b = x
        · rw [hbx] at e ⊢; rw [(N (x, accObj dx its n) (by k_mem)).1] at e; rw [← Option.some.inj e]; exact hx0
        · by_cases hbd : b = dx
          · rw [hbd] at e ⊢; rw [(N (dx, iniD hsh tk0 u0 nd) (by k_mem)).1] at e; rw [← Option.some.inj e]; exact hd0
          · exact F'.keep b o (kg' b o e (by simp only [List.map_cons, List.map_nil, List.mem_cons, List.not_mem_nil, or_false]; rintro (h | h | h | h); exact hb1 h; exact hb2 h; exact hbx h; exact hbd h))
      exact hret _ _ _ _ _ _ hg6 (fun b o hb1 hb2 e => hk6 b o hb2 (hk5 b o hb1 (keep0 b o hb1 hb2 e))) (hk6 _ _ (by decide) hT5) hT6
end
section
theorem callInit {w : World} {A : Around} {s : Shared} {Q : Value → Shared → Prop} {E : Value → Shared → Prop} {q x dx : Addr} {n : Nat} {od : Obj} (I : InstAt s.heap x (accObj dx #[] n) 195 (some od))
    (hq : s.heap.get? q = some ⟨.type "method-wrapper", none, .fields #[.builtin "list.__init__", .ref x], #[]⟩)
    (h : ∀ h' n', Heap.SameBut x s.heap h' → h'.get? x = some (accObj dx #[] n') → Q .none { s with heap := h' }) : wpAny (model PySem.Challenge.rw_ik0127_01.row.prog w) A (call (.ref q) []) Q E s := by
  refine wpAny_call (codeAny_of_tree ?_)
  show wpAny _ _ (callAny (.ref q) _) _ _ _
  refine wpAny_bind (wpAny_load hq ?_)
  refine wpAny_bind (run_ev (a := ()) (s' := s) no_frag ?_ (by kernel_rfl))
  refine wpAny_pure (And.intro (plainId_quiet (by decide +kernel) _) (codeAny_builtin F.entry_list_init ?_))
  have hl := I.at_
  delta Builtin.«list.__init__»
  dsimp only
  rw [if_neg (by decide), if_neg (by decide)]
  delta Builtin.List.listItems Builtin.List.listUpdate
  refine wpAny_bind (wpAny_bind (wpAny_seqItems hl rfl (wpAny_pure ?_)))
  refine wpAny_bind (wpAny_updateSeq hl rfl ?_ (by rw [sizeLine_eq]; simp) (by rw [sizeLine_eq]; simp))
  refine wpAny_bind (wpAny_letGo (wpAny_pure (h _ _ (Heap.SameBut.update ..) ((Heap.get?_update_self _ hl (by rfl)).trans rfl))))
local macro_rules | `(tactic| k_inst) => `(tactic| exact Mine.acc_inst (by k_asm) (by k_mem) (by k_mem))
theorem accC {w : World} {p : Program} {loose : List Str} {mean : ExcName → Option Value} {mg mb : Str → Option Value} (u : Tok)
    (dp un : Nat) (gd : Option (List Code)) (cn : Str) (cs : Scope) (a : Addr) (ccd : Value) (cl : List (Str × Addr)) (outer : List Env) (A₀ : Around) (base h₀ : Heap) (L : Addr) (m : Str → Option Value) (s : Shared) (Q E : Value → Shared → Prop)
    (B : Below A₀ base outer h₀) (F : Fr h₀ L s.heap m) (X : (Mine.hd.heap_1 w.params).In h₀) (T : Top p loose mean mg mb h₀) (hk : cs.kind = .function) (hd : dp + 16 < recursionLimit) (hu : un + 300 < cLine)
    (hret : ∀ x dx h' tk' n' hsh tk u nd, (∀ b o, s.heap.get? b = some o → h'.get? b = some o) → h'.get? x = some (accObj dx #[] n') → h'.get? dx = some (iniD hsh tk u nd) → s.heap.get? x = none → s.heap.get? dx = none → Q (.ref x) { s with heap := h', toks := tk' }) :
    wpAny (model PySem.Challenge.rw_ik0127_01.row.prog w) (ktrTop dp un gd cn cs L a ccd cl outer) (call (.ref 195) [.int 0 u]) Q E s := by
  refine wpAny_call ?_
  refine Mine.make_acc (fI := 132) (X.keeps F.keep) (by rfl) (by rfl) fun x dx h1 tk1 k1 k2 k3 k4 k5 => ?_
  have F1 := F.keeps k1
  have N1 : News h₀ L h1 [(x, accObj dx #[] 0), (dx, dictOf [] 0)] := fun q hq => by
    have key : ∀ b, s.heap.get? b = none → b ≠ L ∧ h₀.get? b = none := fun b hb => by
      refine ⟨fun e => ?_, ?_⟩
      · obtain ⟨oL, _, _, hL, _⟩ := F.ns
        rw [e, hL] at hb; cases hb
      · cases e : h₀.get? b with
        | none => rfl
        | some o' => rw [F.keep _ _ e] at hb; cases hb
    simp only [List.mem_cons, List.not_mem_nil, or_false] at hq
    rcases hq with rfl | rfl
    · exact ⟨k2, (key _ k4)⟩
    · exact ⟨k3, (key _ k5)⟩
  revert X T; k_fill; intro X T
  (refine' Mine.enterS ?kN ?k1 ?k2 ?k3 ?k5 ?kA ?kF ?kK ?k6 ?k7 ?k8 ?k9 ?kB ?_ ?c1 ?c2 ?c3 ?c4; (case kA | kF => exact rfl); (case kK | kN => assumption); (case k1 | k2 | k3 | k5 => k_asm); (case k6 | k7 => k_is); (case k8 => cb_room); (case k9 => exact binds_K (by k_in) rfl (by k_is) rfl rfl rfl); (case kB => exact locs rfl); (case c1 => decide); (case c2 | c3 | c4 => exact rfl); intro _ _ _ _ _ _ _ _ _ _)
  rename_i L' h' g' kg' F' N' B' X' T' kn'
  iterate 5 walk_at "M w"
  have hx0 := (N' (x, accObj dx #[] 0) (by k_mem)).1
  have hd0 := (N' (dx, dictOf [] 0) (by k_mem)).1
  have hxd : x ≠ dx := news_ne N' (o1 := accObj dx #[] 0) (o2 := dictOf [] 0) (by k_mem) (by k_mem) (by intro e; cases e)
  have I1 : InstAt h' x (accObj dx #[] 0) 195 (some (dictOf [] 0)) := ⟨hx0, rfl, rfl, hd0⟩
  refine Mine.set_acc (pre := [(x, accObj dx #[] 0)]) (post := []) (od := dictOf [] 0) (od' := dictOf [_] _) F' N' X' hx0 (fun q hq => by rw [List.mem_singleton.mp hq]; exact hxd) (fun _ h => nomatch h) rfl ((putName_dict _ _ _ _ _ _).trans rfl) (by kernel_rfl) fun hA FA NA hsA => ?_
  dsimp only
  refine ks_wpAt_execs_cons (ks_wpAt_Expr_any (ks_wpAt_MethodCall ?_) rfl)
  walk_at "M w"
  rename Fr _ _ _ _ => F7
  rename News _ _ _ _ => N7
  have hxe := (N7 (x, accObj dx #[] 0) (by k_mem)).1
  refine Mine.super_method (o' := { cls := .type "method-wrapper", data := .fields #[.builtin "list.__init__", .ref x] }) (T := "wrapper_descriptor") (gid := "wrapper_descriptor.__get__") F7 X' N7 (by k_mem) (Mine.acc_inst N7 (by k_mem) (by k_mem)) (by k_is) (by ks_is) (fun A Q E s q => (Looks.of_pure (h := s.heap) (by show builtinType _ = _; rw [builtinType_eq_fast]; kernel_rfl) : Looks _ _ (typeOf (.builtin "list.__init__")) (.type "wrapper_descriptor")) A Q E s (fun _ _ e => e) q) (by rw [typeLookup_type, builtinLookup_eq_fast]; kernel_rfl) (by decide)
    (fun A Q E s' e hend => bindInit (by rw [e]; exact X'.keeps F7.keep) (by rw [e]; exact hxe) hend) ?_
  intro q8 h8 tk8 F8 N8 hq8 hk8
  refine Mine.callWith_0 (N8 _ (.head _)).1 (.inl rfl) (Mine.callInit (Mine.acc_inst N8 (by k_mem) (by k_mem)) (N8 _ (.head _)).1 (fun h9 n9 hs9 hx9 => ?_))
  dsimp only
  iterate 2 walk_at "M w"
  refine ⟨rfl, hret x dx h9 _ n9 _ _ _ _ (fun b o e => ?_) hx9 (hs9.extBut _ _ hxd.symm (N8 (dx, dictOf [_] _) (by k_mem)).1) k4 k5⟩
  have hbx : b ≠ x := fun q => by rw [q, k4] at e; cases e
  have hbd : b ≠ dx := fun q => by rw [q, k5] at e; cases e
  exact hs9.extBut b o hbx (F8.keep b o (kg' b o (k1 b o e) (by simp only [List.map_cons, List.map_nil, List.mem_cons, List.not_mem_nil, or_false]; rintro (h | h); exact hbx h; exact hbd h)))
end
section
local macro_rules | `(tactic| walk_at "call ref") => `(tactic| walk_at "M stop")
local macro_rules | `(tactic| k_ne) => `(tactic| ((try dsimp only); first | assumption | (refine Ne.symm ?_; assumption)))
theorem fresh_of {h₀ h h' : Heap} {L b : Addr} {m : Str → Option Value} {o : Obj} (F : Fr h₀ L h m) (hb : h.get? b = none) (ho : h'.get? b = some o) : h'.get? b = some o ∧ b ≠ L ∧ h₀.get? b = none := by
  refine ⟨ho, fun e => ?_, ?_⟩
  · obtain ⟨oL, _, _, hL, _⟩ := F.ns
    rw [e, hL] at hb; cases hb
  · cases e : h₀.get? b with
    | none => rfl
    | some o' => rw [F.keep _ _ e] at hb; cases hb
theorem News.more {h₀ h' : Heap} {L b : Addr} {o : Obj} {news : List (Addr × Obj)} (x : h'.get? b = some o ∧ b ≠ L ∧ h₀.get? b = none) (N : News h₀ L h' news) : News h₀ L h' ((b, o) :: news) := fun q hq => by
  rcases List.mem_cons.mp hq with rfl | hq
  · exact x
  · exact N q hq
section
variable {prog : Program} {w : World} {A : Around} {K : Frag} {C : Addr} {s : Shared} {R : Result → Shared → Prop}
/-- an object of a class of the text's own is made; all of the heap is kept -/
theorem make_all {rest : List Value} {kw : List (Str × Value)} {fI : Addr} (X : K.In s.heap) (hm : makesIn K C = true)
    (hi : findIn K (.ref C) "__init__" = some (some (.ref fI))) (hf : typeIn K (.ref fI) = some (.type "function"))
    (h : ∀ x dx h', (∀ b o, s.heap.get? b = some o → h'.get? b = some o) → h'.get? x = some (instObj C dx) → h'.get? dx = some (dictOf [] 0) → s.heap.get? x = none → s.heap.get? dx = none → dx ≠ x →
      codeAny (model prog w) (A.under (.builtin "type.__call__" ⟨.ref C :: rest, kw⟩)) (.call (.ref fI) ⟨.ref x :: rest, kw⟩) (InitBack x R) { s with heap := h' }) :
    codeAny (model prog w) A (.call (.ref C) ⟨rest, kw⟩) R s := by
  obtain ⟨hh, g, d, t, os⟩ := s
  have no : ∀ b, hh.objs.size ≤ b → hh.get? b = none := fun b hb => by
    cases e : hh.get? b with
    | none => rfl
    | some o => exact absurd (Heap.lt_size e) (Nat.not_lt.mpr hb)
  refine make_core (makes_of X hm) (looks_findIn X hi) (fun self => bind_fn X self hf) (.inl rfl) (h _ hh.objs.size _ (fun b o e => Heap.get?_push_of_some _ (Heap.get?_push_of_some _ e)) (by heap_get) (by heap_get) (no _ (Nat.le_succ _)) (no _ (Nat.le_refl _)) (Nat.ne_of_lt (Nat.lt_succ_self _)))
end
/-- the dictionary of a _ValueFormatter -/
noncomputable abbrev vfD (hs : Nat → Int) (ks : Nat → Tok) (nd : Nat) (W : Int) (sg : Str) (D x : Addr) : Obj :=
  dictOf [⟨hs 0, .str (Str.ofString "_maxlen") (ks 0), .int W (ks 6)⟩, ⟨hs 1, .str (Str.ofString "_continuation_ws") (ks 1), .str (Str.ofString " ") (ks 7)⟩, ⟨hs 2, .str (Str.ofString "_continuation_ws_len") (ks 2), .int 1 (ks 8)⟩, ⟨hs 3, .str (Str.ofString "_splitchars") (ks 3), .str sg (ks 9)⟩, ⟨hs 4, .str (Str.ofString "_lines") (ks 4), .ref D⟩, ⟨hs 5, .str (Str.ofString "_current_line") (ks 5), .ref x⟩] nd
inductive IsVF (od : Obj) (W : Int) (sg : Str) (D x : Addr) : Prop
  | mk (hs : Nat → Int) (ks : Nat → Tok) (nd : Nat) (e : od = vfD hs ks nd W sg D x) : IsVF od W sg D x
theorem IsVF.of {h1 h2 h3 h4 h5 h6 : Int} {k1 k2 k3 k4 k5 k6 t1 t2 t3 t4 : Tok} {nd : Nat} {W : Int} {sg : Str} {D x : Addr} :
    IsVF (dictOf [⟨h1, .str (Str.ofString "_maxlen") k1, .int W t1⟩, ⟨h2, .str (Str.ofString "_continuation_ws") k2, .str (Str.ofString " ") t2⟩, ⟨h3, .str (Str.ofString "_continuation_ws_len") k3, .int 1 t3⟩, ⟨h4, .str (Str.ofString "_splitchars") k4, .str sg t4⟩, ⟨h5, .str (Str.ofString "_lines") k5, .ref D⟩, ⟨h6, .str (Str.ofString "_current_line") k6, .ref x⟩] nd) W sg D x :=
  ⟨fun i => [h1, h2, h3, h4, h5, h6].getD i 0, fun i => [k1, k2, k3, k4, k5, k6, t1, t2, t3, t4].getD i 0, nd, rfl⟩
theorem makeC {w : World} {p : Program} {loose : List Str} {mean : ExcName → Option Value} {mg mb : Str → Option Value} (W : Int) (sg : Str) (u1 u2 u3 u4 : Tok)
    (dp un : Nat) (gd : Option (List Code)) (cn : Str) (cs : Scope) (a : Addr) (ccd : Value) (cl : List (Str × Addr)) (outer : List Env) (A₀ : Around) (base h₀ : Heap) (L : Addr) (m : Str → Option Value) (s : Shared) (Q E : Value → Shared → Prop)
    (B : Below A₀ base outer h₀) (F : Fr h₀ L s.heap m) (X : (Mine.hd.heap_1 w.params).In h₀) (T : Top p loose mean mg mb h₀) (hk : cs.kind = .function) (hd : dp + 20 < recursionLimit) (hu : un + 400 < cLine)
    (hret : ∀ k kd x dx D h' tk' n' c hsh tk u nd od, (∀ b o, s.heap.get? b = some o → h'.get? b = some o) → h'.get? k = some (instObj 111 kd) → h'.get? kd = some od → IsVF od W sg D x → h'.get? D = some (PySem.W.listOf #[] c) → h'.get? x = some (accObj dx #[] n') → h'.get? dx = some (iniD hsh tk u nd) →
      (∀ b ∈ [k, kd, x, dx, D], s.heap.get? b = none) → dx ≠ kd → Q (.ref k) { s with heap := h', toks := tk' }) :
    wpAny (model PySem.Challenge.rw_ik0127_01.row.prog w) (ktrTop dp un gd cn cs L a ccd cl outer) (call (.ref 111) [.int 0 u1, .int W u2, .str (Str.ofString " ") u3, .str sg u4]) Q E s := by
  revert X T; k_fill; intro X T
  refine wpAny_call (Mine.make_all (fI := 52) (X.keeps F.keep) (by rfl) (by rfl) (by rfl) fun k kd h1 k1 k2 k3 k4 k5 hkd => ?_)
  have F1 := F.keeps k1
  have N1 : News h₀ L h1 [(k, instObj 111 kd), (kd, dictOf [] 0)] := Mine.News.more (fresh_of F k4 k2) (Mine.News.more (fresh_of F k5 k3) News.nil)
  k_dflt (refine' Mine.enterN ?kN ?k1 ?k2 ?k3 ?k5 ?kA ?kF ?kK ?k6 ?k7 ?k8 ?k9 ?kB ?_ ?c2 ?c3 ?c4 ?c5; (case kA | kF => exact rfl); (case kK | kN => assumption); (case k1 | k2 | k3 | k5 => k_asm); (case k6 | k7 => k_is); (case k8 => cb_room); (case k9 => exact BindsTo.of_eq rfl); (case c5 => decide); (case kB => exact locs rfl); (case c2 | c3 | c4 => exact rfl); k_whole; intro _ _ _ _ _ _ _ _ _ _; (try dsimp only); (try k_fold))
  rename_i L' h' g' kg' F' N' B' X' T' kn'
  repeat walk_at "M w"
  have hne : k ≠ kd := hkd.symm
  repeat walk_at "M w"
  refine Mine.stopHere ?_
  rename Fr _ _ _ _ => F5
  rename News _ _ _ _ => N5
  rename_i l _ hl5 h5
  have keep1 : ∀ b o, s.heap.get? b = some o → h5.get? b = some o := fun b o e => by
    exact F5.keep b o (kg' b o (k1 b o e) (Mine.off_none e (Mine.fm2 k4 k5)))
  apply Mine.accC
  case B => k_asm
  case F => k_asm
  case X => k_asm
  case T => k_asm
  case hk => with_unfolding_all rfl
  case hd => show dp + 1 + 1 + 16 < recursionLimit; omega
  case hu => show un + 1 + 3 + 300 < cLine; omega
  case hret =>
    intro x dx h6 tk6 n6 hsh6 tkk6 u6 nd6 hk6 hx6 hd6 hx5 hd5
    have N6 := Mine.News.more (fresh_of F5 hx5 hx6) (Mine.News.more (fresh_of F5 hd5 hd6) (N5.grown hk6))
    have F6 := F5.keeps hk6
    have hkx : k ≠ x := fun e => by rw [← e, (N5 (k, instObj 111 kd) (by k_mem)).1] at hx5; cases hx5
    have hkd5 : ∃ o, h5.get? kd = some o := ⟨_, (N5 (kd, dictOf [_, _, _, _, _] _) (by k_mem)).1⟩
    have hnk : ∀ b, h5.get? b = none → b ≠ kd := fun b hb e => by obtain ⟨o, ho⟩ := hkd5; rw [e, ho] at hb; cases hb
    have hxkd := hnk _ hx5
    have hdkd := hnk _ hd5
    have hlkd : l ≠ kd := fun e => by rw [e] at hl5; exact Nat.lt_irrefl _ hl5.2
    repeat walk_at "M w"
    rename Fr _ _ _ _ => F9
    rename News _ _ _ _ => N9
    have gone : ∀ b, h5.get? b = none → s.heap.get? b = none := fun b hb => by
      cases e : s.heap.get? b with
      | none => rfl
      | some o => rw [keep1 b o e] at hb; cases hb
    refine ⟨rfl, hret k kd x dx l _ _ n6 0 _ _ _ _ _ (fun b o e => ?_) (N9 (k, _) (by k_mem)).1 (N9 (kd, dictOf [_, _, _, _, _, _] _) (by k_mem)).1 .of (N9 (l, _) (by k_mem)).1 (N9 (x, _) (by k_mem)).1 (N9 (dx, iniD _ _ _ _) (by k_mem)).1 ?_ hdkd⟩
    · exact F9.keep b o (kg' b o (k1 b o e) (Mine.off_none e (Mine.fm2 k4 k5)))
    · have l0 : s.heap.get? l = none := by
        have e1 := (N9 (l, PySem.W.listOf #[] 0) (by k_mem)).2.2
        cases e : s.heap.get? l with
        | none => rfl
        | some o =>
          rw [kg' l o (k1 l o e) (Mine.off_none e (Mine.fm2 k4 k5))] at e1
          cases e1
      exact Mine.fm5 k4 k5 (gone _ hx5) (gone _ hd5) l0
end
section
theorem all7 {α : Type} {P : α → Prop} {a b c d e f g : α} (h1 : P a) (h2 : P b) (h3 : P c) (h4 : P d) (h5 : P e) (h6 : P f) (h7 : P g) : ∀ q ∈ [a, b, c, d, e, f, g], P q := by
  intro q hq
  simp only [List.mem_cons, List.not_mem_nil, or_false] at hq
  rcases hq with rfl | rfl | rfl | rfl | rfl | rfl | rfl <;> assumption
theorem sub1 {h₀ h : Heap} {L : Addr} {l : List (Addr × Obj)} {a : Addr × Obj} (N : News h₀ L h l) (h1 : a ∈ l) : News h₀ L h [a] := fun q hq => by rw [List.mem_singleton.mp hq]; exact N a h1
theorem sub2 {h₀ h : Heap} {L : Addr} {l l' : List (Addr × Obj)} {a : Addr × Obj} (N : News h₀ L h l) (h1 : a ∈ l) (h2 : News h₀ L h l') : News h₀ L h (a :: l') := fun q hq => by
  rcases List.mem_cons.mp hq with e | hq
  · rw [e]; exact N a h1
  · exact h2 q hq
/-- what a _ValueFormatter reaches -/
noncomputable abbrev mkLed (tb1 tb2 : Option Addr) (its : Array Value) (n : Nat) (hsh : Int) (tk u : Tok) (nd : Nat) (lvs : List Value) (c : Nat) (od : Obj) (k kd x dx D : Addr) : List (Addr × Obj) :=
  [(157, tabObj (tabG 94 19 tb1)), (164, tabObj (tabG 97 32 tb2)), (x, accObj dx its n), (dx, iniD hsh tk u nd), (D, PySem.W.listOf lvs.toArray c), (k, instObj 111 kd), (kd, od)]
section
variable {h : Heap} {tb1 tb2 : Option Addr} {its : Array Value} {n : Nat} {hsh : Int} {tk u : Tok} {nd : Nat} {lvs : List Value} {c : Nat} {od : Obj} {k kd x dx D : Addr} (G : ∀ q ∈ mkLed tb1 tb2 its n hsh tk u nd lvs c od k kd x dx D, h.get? q.1 = some q.2)
include G
theorem led_1 : h.get? 157 = some (tabObj (tabG 94 19 tb1)) := G _ (.head _)
theorem led_2 : h.get? 164 = some (tabObj (tabG 97 32 tb2)) := G _ (.tail _ (.head _))
theorem led_3 : h.get? x = some (accObj dx its n) := G _ (.tail _ (.tail _ (.head _)))
theorem led_4 : h.get? dx = some (iniD hsh tk u nd) := G _ (.tail _ (.tail _ (.tail _ (.head _))))
theorem led_5 : h.get? D = some (PySem.W.listOf lvs.toArray c) := G _ (.tail _ (.tail _ (.tail _ (.tail _ (.head _)))))
theorem led_6 : h.get? k = some (instObj 111 kd) := G _ (.tail _ (.tail _ (.tail _ (.tail _ (.tail _ (.head _))))))
theorem led_7 : h.get? kd = some od := G _ (.tail _ (.tail _ (.tail _ (.tail _ (.tail _ (.tail _ (.head _)))))))
end
/-- references to objects of T alone -/
noncomputable def InT (T : Addr → Prop) (its : Array Value) : Prop := ∀ v ∈ its.toList, ∃ ta, v = Value.ref ta ∧ T ta
/-- a _ValueFormatter whose line holds the parts ps (pairs that lie in T) and that wrote the lines ls -/
inductive MkSt (h : Heap) (T : Addr → Prop) (od : Obj) (k kd x dx D : Addr) (ps : List (Str × Str)) (ls : List Str) : Prop
  | mk (tb1 tb2 : Option Addr) (its : Array Value) (n : Nat) (hsh : Int) (tk u : Tok) (nd : Nat) (lvs : List Value) (c : Nat) (G : ∀ q ∈ mkLed tb1 tb2 its n hsh tk u nd lvs c od k kd x dx D, h.get? q.1 = some q.2) (hP : PartsAt h its ps) (hT : InT T its) (hL : StrsAre lvs ls) : MkSt h T od k kd x dx D ps ls
noncomputable def Free (h₀ : Heap) (L k kd x dx D : Addr) : Prop := ∀ b ∈ [157, 164, x, dx, D, k, kd], b ≠ L ∧ h₀.get? b = none
structure Ap (k kd x dx D : Addr) : Prop where
  x1 : x ≠ 157
  x2 : x ≠ 164
  d1 : dx ≠ 157
  d2 : dx ≠ 164
  l1 : D ≠ 157
  l2 : D ≠ 164
  k1 : k ≠ 157
  k2 : k ≠ 164
  e1 : kd ≠ 157
  e2 : kd ≠ 164
  xd : x ≠ dx
  xl : x ≠ D
  xk : x ≠ k
  xe : x ≠ kd
  dl : dx ≠ D
  dk : dx ≠ k
  de : dx ≠ kd
  lk : D ≠ k
  le : D ≠ kd
  ke : k ≠ kd
theorem get_ne {h : Heap} {a b : Addr} {o1 o2 : Obj} (h1 : h.get? a = some o1) (h2 : h.get? b = some o2) (d : o1.cls ≠ o2.cls) : a ≠ b := fun e => by
  rw [e, h2] at h1
  exact d (by rw [Option.some.inj h1])
theorem Ap.of {h : Heap} {tb1 tb2 : Option Addr} {its : Array Value} {n : Nat} {hsh : Int} {tk u : Tok} {nd : Nat} {lvs : List Value} {c : Nat} {od : Obj} {k kd x dx D : Addr}
    (G : ∀ q ∈ mkLed tb1 tb2 its n hsh tk u nd lvs c od k kd x dx D, h.get? q.1 = some q.2) (hod : od.cls = .type "dict") (de : dx ≠ kd) : Ap k kd x dx D := by
  have g1 := led_1 G
  have g2 := led_2 G
  have gx := led_3 G
  have gd := led_4 G
  have gl := led_5 G
  have gk := led_6 G
  have ge := led_7 G
  have st : ∀ a b : String, a ≠ b → Value.type a ≠ Value.type b := fun a b h e => h (Value.type.inj e)
  constructor
  · exact get_ne gx g1 (by intro e; cases e)
  · exact get_ne gx g2 (by intro e; cases e)
  · exact get_ne gd g1 (by intro e; cases e)
  · exact get_ne gd g2 (by intro e; cases e)
  · exact get_ne gl g1 (by intro e; cases e)
  · exact get_ne gl g2 (by intro e; cases e)
  · exact get_ne gk g1 (by intro e; cases e)
  · exact get_ne gk g2 (by intro e; cases e)
  · exact get_ne ge g1 (by rw [hod]; intro e; cases e)
  · exact get_ne ge g2 (by rw [hod]; intro e; cases e)
  · exact get_ne gx gd (by intro e; cases e)
  · exact get_ne gx gl (by intro e; cases e)
  · exact get_ne gx gk (by intro e; cases e)
  · exact get_ne gx ge (by rw [hod]; intro e; cases e)
  · exact get_ne gd gl (st "dict" "list" (by decide))
  · exact get_ne gd gk (by intro e; cases e)
  · exact de
  · exact get_ne gl gk (by intro e; cases e)
  · exact get_ne gl ge (by rw [hod]; exact st "list" "dict" (by decide))
  · exact get_ne gk ge (by rw [hod]; intro e; cases e)
theorem led_all {h : Heap} {tb1 tb2 : Option Addr} {its : Array Value} {n : Nat} {hsh : Int} {tk u : Tok} {nd : Nat} {lvs : List Value} {c : Nat} {od : Obj} {k kd x dx D : Addr}
    (g1 : h.get? 157 = some (tabObj (tabG 94 19 tb1))) (g2 : h.get? 164 = some (tabObj (tabG 97 32 tb2))) (gx : h.get? x = some (accObj dx its n)) (gd : h.get? dx = some (iniD hsh tk u nd)) (gl : h.get? D = some (PySem.W.listOf lvs.toArray c)) (gk : h.get? k = some (instObj 111 kd)) (ge : h.get? kd = some od) :
    ∀ q ∈ mkLed tb1 tb2 its n hsh tk u nd lvs c od k kd x dx D, h.get? q.1 = some q.2 := by
  exact all7 (P := fun q : Addr × Obj => h.get? q.1 = some q.2) g1 g2 gx gd gl gk ge
theorem led_news {h₀ h : Heap} {L : Addr} {tb1 tb2 : Option Addr} {its : Array Value} {n : Nat} {hsh : Int} {tk u : Tok} {nd : Nat} {lvs : List Value} {c : Nat} {od : Obj} {k kd x dx D : Addr}
    (G : ∀ q ∈ mkLed tb1 tb2 its n hsh tk u nd lvs c od k kd x dx D, h.get? q.1 = some q.2) (Z : Free h₀ L k kd x dx D) : News h₀ L h (mkLed tb1 tb2 its n hsh tk u nd lvs c od k kd x dx D) := fun q hq => by
  exact ⟨G q hq, Z q.1 (List.mem_map_of_mem (f := fun q : Addr × Obj => q.1) hq)⟩
theorem News.free {h₀ h : Heap} {L : Addr} {tb1 tb2 : Option Addr} {its : Array Value} {n : Nat} {hsh : Int} {tk u : Tok} {nd : Nat} {lvs : List Value} {c : Nat} {od : Obj} {k kd x dx D : Addr}
    (N : News h₀ L h (mkLed tb1 tb2 its n hsh tk u nd lvs c od k kd x dx D)) : Free h₀ L k kd x dx D := 
  all7 (P := fun b => b ≠ L ∧ h₀.get? b = none) (N _ (.head _)).2 (N _ (.tail _ (.head _))).2 (N _ (.tail _ (.tail _ (.head _)))).2 (N _ (.tail _ (.tail _ (.tail _ (.head _))))).2 (N _ (.tail _ (.tail _ (.tail _ (.tail _ (.head _)))))).2 (N _ (.tail _ (.tail _ (.tail _ (.tail _ (.tail _ (.head _))))))).2 (N _ (.tail _ (.tail _ (.tail _ (.tail _ (.tail _ (.tail _ (.head _)))))))).2
/-- the addresses that the methods change -/
noncomputable abbrev chg (x dx D : Addr) : List Addr := [157, 164, x, dx, D]
/-- after a callee that changes these alone -/
theorem Fr.mk {h₀ h h' : Heap} {L k kd x dx D : Addr} {m : Str → Option Value} (F : Fr h₀ L h m) (Z : Free h₀ L k kd x dx D) (hx : ∀ b o, b ∉ chg x dx D → h.get? b = some o → h'.get? b = some o) : Fr h₀ L h' m := by
  have key : ∀ b ∈ chg x dx D, b ≠ L ∧ h₀.get? b = none := fun b hb => Z b (by
    simp only [chg, List.mem_cons, List.not_mem_nil, or_false] at hb ⊢
    rcases hb with h | h | h | h | h <;> simp [h])
  refine ⟨?_, fun b o e => hx b o (fun hb => ?_) (F.keep b o e), F.above⟩
  · obtain ⟨o, es, ep, e, r⟩ := F.ns
    exact ⟨o, es, ep, hx L o (fun hb => (key L hb).1 rfl) e, r⟩
  · rw [(key b hb).2] at e; cases e
theorem not_chg {x dx D b : Addr} (h1 : b ≠ 157) (h2 : b ≠ 164) (h3 : b ≠ x) (h4 : b ≠ dx) (h5 : b ≠ D) : b ∉ chg x dx D := by
  simp only [chg, List.mem_cons, List.not_mem_nil, or_false]
  rintro (h | h | h | h | h) <;> contradiction
theorem of_chg {x dx D b : Addr} (h : b ∉ chg x dx D) : b ≠ 157 ∧ b ≠ 164 ∧ b ≠ x ∧ b ≠ dx ∧ b ≠ D := by
  simp only [chg, List.mem_cons, List.not_mem_nil, or_false, not_or] at h
  exact h
theorem parts_push {h h' : Heap} {its : Array Value} {ps : List (Str × Str)} {ta : Addr} {f1 f2 : Str} {t1 t2 : Tok} (hP : PartsAt h its ps) (k : ∀ ta vs, h.IsTuple ta vs → h'.IsTuple ta vs) (ht : h'.IsTuple ta #[.str f1 t1, .str f2 t2]) : PartsAt h' (its.push (.ref ta)) (ps ++ [(f1, f2)]) := by
  refine ⟨by rw [Array.size_push, hP.1]; simp, fun j hj => ?_⟩
  rw [Array.size_push] at hj
  by_cases hj2 : j < its.size
  · obtain ⟨tb, u1, u2, e1, e2⟩ := hP.2 j hj2
    refine ⟨tb, u1, u2, ?_, ?_⟩
    · rw [Array.getElem?_push, if_neg (Nat.ne_of_lt (by assumption))]; exact e1
    · have : (ps ++ [(f1, f2)]).getD j default = ps.getD j default := by
        rw [List.getD_eq_getElem?_getD, List.getD_eq_getElem?_getD, List.getElem?_append_left (by rw [← hP.1]; exact hj2)]
      rw [this]; exact k _ _ e2
  · have hj3 : j = its.size := Nat.le_antisymm (Nat.le_of_lt_succ (by assumption)) (Nat.not_lt.mp (by assumption))
    refine ⟨ta, t1, t2, ?_, ?_⟩
    · rw [Array.getElem?_push, if_pos hj3]
    · have : (ps ++ [(f1, f2)]).getD j default = (f1, f2) := by
        rw [List.getD_eq_getElem?_getD, List.getElem?_append_right (by rw [hj3, hP.1]; exact Nat.le_refl _), hj3, hP.1, Nat.sub_self]
        rfl
      rw [this]; exact ht
theorem parts_take {h : Heap} {vs : List Value} {ps : List (Str × Str)} (hP : PartsAt h vs.toArray ps) (i : Nat) : PartsAt h (vs.take i).toArray (ps.take i) := by
  have e := hP.1
  simp only [List.size_toArray] at e
  refine ⟨by simp [e], fun j hj => ?_⟩
  simp only [List.size_toArray, List.length_take] at hj
  obtain ⟨tb, u1, u2, e1, e2⟩ := hP.2 j (Nat.lt_of_lt_of_le hj (Nat.min_le_right _ _))
  refine ⟨tb, u1, u2, ?_, ?_⟩
  · simp only [List.getElem?_toArray] at e1 ⊢
    rw [List.getElem?_take, if_pos (Nat.lt_of_lt_of_le hj (Nat.min_le_left _ _))]; exact e1
  · have : (ps.take i).getD j default = ps.getD j default := by
      rw [List.getD_eq_getElem?_getD, List.getD_eq_getElem?_getD, List.getElem?_take, if_pos (Nat.lt_of_lt_of_le hj (Nat.min_le_left _ _))]
    rw [this]; exact e2
theorem parts_drop {h : Heap} {vs : List Value} {ps : List (Str × Str)} (hP : PartsAt h vs.toArray ps) (i : Nat) : PartsAt h (vs.drop i).toArray (ps.drop i) := by
  have e := hP.1
  simp only [List.size_toArray] at e
  refine ⟨by simp [e], fun j hj => ?_⟩
  simp only [List.size_toArray, List.length_drop] at hj
  obtain ⟨tb, u1, u2, e1, e2⟩ := hP.2 (i + j) (Nat.add_lt_of_lt_sub' hj)
  refine ⟨tb, u1, u2, ?_, ?_⟩
  · simp only [List.getElem?_toArray] at e1 ⊢
    rw [List.getElem?_drop]; exact e1
  · have : (ps.drop i).getD j default = ps.getD (i + j) default := by
      rw [List.getD_eq_getElem?_getD, List.getD_eq_getElem?_getD, List.getElem?_drop]
    rw [this]; exact e2
theorem parts_move {h h' : Heap} {T : Addr → Prop} {its : Array Value} {ps : List (Str × Str)} (hP : PartsAt h its ps) (hT : InT T its) (key : ∀ ta o, T ta → h.get? ta = some o → h'.get? ta = some o) : PartsAt h' its ps :=
  ⟨hP.1, fun j hj => by
    obtain ⟨ta, t1, t2, e1, o, ho, r⟩ := hP.2 j hj
    have hm : Value.ref ta ∈ its.toList := by
      rw [← Array.getElem?_toList] at e1
      exact List.mem_of_getElem? e1
    obtain ⟨tb, e, hTb⟩ := hT _ hm
    cases e
    exact ⟨ta, t1, t2, e1, o, key _ _ hTb ho, r⟩⟩
theorem InT.mono {T T' : Addr → Prop} {its : Array Value} (h : InT T its) (k : ∀ b, T b → T' b) : InT T' its := fun v hv => by
  obtain ⟨ta, e, ht⟩ := h v hv
  exact ⟨ta, e, k _ ht⟩
theorem InT.push {T : Addr → Prop} {its : Array Value} {ta : Addr} (h : InT T its) : InT (fun b => T b ∨ b = ta) (its.push (.ref ta)) := fun v hv => by
  rw [Array.toList_push, List.mem_append, List.mem_singleton] at hv
  rcases hv with hv | rfl
  · obtain ⟨tb, e, ht⟩ := h v hv
    exact ⟨tb, e, .inl ht⟩
  · exact ⟨ta, rfl, .inr rfl⟩
theorem InT.sub {T : Addr → Prop} {vs ws : List Value} (h : InT T vs.toArray) (k : ∀ v ∈ ws, v ∈ vs) : InT T ws.toArray := fun v hv => h v (by simpa using k v (by simpa using hv))
theorem InT.nil {T : Addr → Prop} : InT T #[] := fun v hv => by simp at hv
/-- the ground's objects that T holds, and the ones named -/
noncomputable def inG (g : Heap) (TT : Addr → Prop) (ex : List Addr) (b : Addr) : Prop := (TT b ∧ ∃ o, g.get? b = some o) ∨ b ∈ ex
theorem inG_key {g h h' : Heap} {TT : Addr → Prop} {ex : List (Addr × Obj)} (F : ∀ b o, g.get? b = some o → h.get? b = some o) (F' : ∀ b o, g.get? b = some o → h'.get? b = some o) (N : ∀ q ∈ ex, h.get? q.1 = some q.2) (N' : ∀ q ∈ ex, h'.get? q.1 = some q.2) : ∀ ta o, inG g TT (ex.map (·.1)) ta → h.get? ta = some o → h'.get? ta = some o := by
  rintro ta o (⟨-, o', e⟩ | e) ho
  · rw [F _ _ e] at ho
    rw [← Option.some.inj ho]
    exact F' _ _ e
  · obtain ⟨q, hq, rfl⟩ := List.mem_map.mp e
    rw [N q hq] at ho
    rw [← Option.some.inj ho]
    exact N' q hq
theorem InT.ground {h g : Heap} {TT : Addr → Prop} {its : Array Value} {ps : List (Str × Str)} (hP : PartsAt h its ps) (hT : InT TT its) (kt : ∀ b o, o.cls = .type "tuple" → h.get? b = some o → g.get? b = some o) : InT (inG g TT []) its := fun v hv => by
  obtain ⟨ta, rfl, ht⟩ := hT v hv
  obtain ⟨j, hj, e⟩ := List.mem_iff_getElem.mp hv
  obtain ⟨tb, t1, t2, e1, o, ho, hc, r⟩ := hP.2 j (by simpa using hj)
  have e2 : its[j]? = some (.ref ta) := by rw [← Array.getElem?_toList, List.getElem?_eq_getElem hj, e]
  rw [e2] at e1
  cases e1
  exact ⟨ta, rfl, .inl ⟨ht, o, kt _ _ hc ho⟩⟩
theorem MkSt.mono {h : Heap} {T T' : Addr → Prop} {od : Obj} {k kd x dx D : Addr} {ps : List (Str × Str)} {ls : List Str} (M : MkSt h T od k kd x dx D ps ls) (kk : ∀ b, T b → T' b) : MkSt h T' od k kd x dx D ps ls := by
  obtain ⟨tb1, tb2, its, n, hsh, tk, u, nd, lvs, c, G, hP, hT, hL⟩ := M
  exact ⟨tb1, tb2, its, n, hsh, tk, u, nd, lvs, c, G, hP, hT.mono kk, hL⟩
theorem inG.more {g : Heap} {TT : Addr → Prop} {ex : List Addr} {ta b : Addr} (h : inG g TT ex b ∨ b = ta) : inG g TT (ta :: ex) b := by
  rcases h with (h | h) | h
  · exact .inl h
  · exact .inr (.tail _ h)
  · exact .inr (h ▸ .head _)
theorem MkSt.empty {h : Heap} {T T' : Addr → Prop} {od : Obj} {k kd x dx D : Addr} {ls : List Str} (M : MkSt h T od k kd x dx D [] ls) : MkSt h T' od k kd x dx D [] ls := by
  obtain ⟨tb1, tb2, its, n, hsh, tk, u, nd, lvs, c, G, hP, hT, hL⟩ := M
  refine ⟨tb1, tb2, its, n, hsh, tk, u, nd, lvs, c, G, hP, ?_, hL⟩
  have e : its = #[] := Array.eq_empty_of_size_eq_zero hP.1
  rw [e]; exact InT.nil
/-- what a method of a _ValueFormatter keeps of its caller's heap -/
theorem keep_all {s g h h2 : Heap} {tb1 tb2 : Option Addr} {its : Array Value} {n : Nat} {hsh : Int} {tk u : Tok} {nd : Nat} {lvs : List Value} {c : Nat} {od : Obj} {k kd x dx D : Addr} (gk0 : s.get? k = some (instObj 111 kd)) (ge0 : s.get? kd = some od)
    (kg : ∀ b o, s.get? b = some o → b ∉ (mkLed tb1 tb2 its n hsh tk u nd lvs c od k kd x dx D).map (·.1) → g.get? b = some o) (F : ∀ b o, g.get? b = some o → h.get? b = some o) (gk : h.get? k = some (instObj 111 kd)) (ge : h.get? kd = some od)
    (kp : ∀ b o, b ∉ chg x dx D → h.get? b = some o → h2.get? b = some o) : ∀ b o, b ∉ chg x dx D → s.get? b = some o → h2.get? b = some o := fun b o hb e => by
  refine kp b o hb ?_
  by_cases h1 : b = k
  · rw [h1] at e ⊢; rw [gk0] at e; rw [← Option.some.inj e]; exact gk
  · by_cases h2 : b = kd
    · rw [h2] at e ⊢; rw [ge0] at e; rw [← Option.some.inj e]; exact ge
    · obtain ⟨a1, a2, a3, a4, a5⟩ := of_chg hb
      exact F b o (kg b o e (by simp only [mkLed, List.map_cons, List.map_nil, List.mem_cons, List.not_mem_nil, or_false]; rintro (q | q | q | q | q | q | q) <;> contradiction))
end
section
theorem tup_chg {h : Heap} {tb1 tb2 : Option Addr} {its : Array Value} {n : Nat} {hsh : Int} {tk u : Tok} {nd : Nat} {lvs : List Value} {c : Nat} {od : Obj} {k kd x dx D : Addr}
    (G : ∀ q ∈ mkLed tb1 tb2 its n hsh tk u nd lvs c od k kd x dx D, h.get? q.1 = some q.2) {b : Addr} {o : Obj} (hc : o.cls = .type "tuple") (e : h.get? b = some o) : b ∉ chg x dx D := by
  have g1 := led_1 G
  have g2 := led_2 G
  have gx := led_3 G
  have gd := led_4 G
  have gl := led_5 G
  have st : ∀ a b : String, a ≠ b → Value.type a ≠ Value.type b := fun a b h e => h (Value.type.inj e)
  exact not_chg (get_ne e g1 (by rw [hc]; intro e; cases e)) (get_ne e g2 (by rw [hc]; intro e; cases e)) (get_ne e gx (by rw [hc]; intro e; cases e)) (get_ne e gd (by rw [hc]; exact st "tuple" "dict" (by decide))) (get_ne e gl (by rw [hc]; exact st "tuple" "list" (by decide)))
theorem pushMc {w : World} {p : Program} {loose : List Str} {mean : ExcName → Option Value} {mg mb : Str → Option Value} (TT : Addr → Prop) (od : Obj) (k kd x dx D : Addr) (ps : List (Str × Str)) (ls : List Str) (f1 f2 : Str) (t1 t2 : Tok)
    (dp un : Nat) (gd : Option (List Code)) (cn : Str) (cs : Scope) (a : Addr) (ccd : Value) (cl : List (Str × Addr)) (outer : List Env) (A₀ : Around) (base h₀ : Heap) (L : Addr) (m : Str → Option Value) (s : Shared) (Q E : Value → Shared → Prop)
    (M : MkSt s.heap TT od k kd x dx D ps ls) (P : Ap k kd x dx D) (Z : Free h₀ L k kd x dx D) (hlen : ps.length ≤ 10)
    (B : Below A₀ base outer h₀) (F : Fr h₀ L s.heap m) (X : (Mine.hd.heap_1 w.params).In h₀) (T : Top p loose mean mg mb h₀) (hk : cs.kind = .function) (hd : dp + 24 < recursionLimit) (hu : un + 600 < cLine)
    (hret : ∀ ta h' tk', (∀ b o, b ∉ chg x dx D → s.heap.get? b = some o → h'.get? b = some o) → s.heap.get? ta = none → h'.get? ta = some (tupOf' #[.str f1 t1, .str f2 t2]) → MkSt h' (fun b => TT b ∨ b = ta) od k kd x dx D (ps ++ [(f1, f2)]) ls → Q .none { s with heap := h', toks := tk' }) :
    codeAny (model PySem.Challenge.rw_ik0127_01.row.prog w) (ktrTop dp un gd cn cs L a ccd cl outer) (.call (.ref 139) ⟨[.ref x, .str f1 t1, .str f2 t2], []⟩) (fun r s' => match r with | .ok (.ret v) => Q v s' | .ok _ => False | .error e => E e s') s := by
  obtain ⟨tb1, tb2, its, n, hsh, tk, u, nd, lvs, c, G, hP, hT, hL⟩ := M
  have g1 := led_1 G
  have g2 := led_2 G
  have gx := led_3 G
  have gd := led_4 G
  have gl := led_5 G
  have gk := led_6 G
  have ge := led_7 G
  have N := led_news G Z
  apply Mine.pushCc (dx := dx) (its := its) (n := n) (od := iniD hsh tk u nd)
  case B => exact B
  case F => exact F
  case X => exact X
  case T => exact T
  case hk => exact hk
  case hd => lia
  case hu => lia
  case N => exact Mine.sub2 N (by k_mem) (Mine.sub1 N (by k_mem))
  case hxd => exact P.xd
  case hcd => rfl
  case ho => rfl
  case hz => have := hP.1; lia
  case hret =>
    intro ta h' tk' kp hx hta ht
    have kpt : ∀ b o, o.cls = .type "tuple" → s.heap.get? b = some o → h'.get? b = some o := fun b o hc e => kp b o (of_chg (tup_chg G hc e)).2.2.1 e
    exact hret ta h' tk' (fun b o hb e => kp b o (of_chg hb).2.2.1 e) hta ht ⟨tb1, tb2, _, _, hsh, tk, u, nd, lvs, c, led_all (kp _ _ P.x1.symm g1) (kp _ _ P.x2.symm g2) hx (kp _ _ P.xd.symm gd) (kp _ _ P.xl.symm gl) (kp _ _ P.xk.symm gk) (kp _ _ P.xe.symm ge),
      parts_push hP (fun tb vs ⟨o, e, hc, r⟩ => ⟨o, kpt _ _ hc e, hc, r⟩) ⟨_, ht, rfl, _, rfl⟩, hT.push, hL⟩
theorem pushM {w : World} {p : Program} {loose : List Str} {mean : ExcName → Option Value} {mg mb : Str → Option Value} (TT : Addr → Prop) (od : Obj) (k kd x dx D : Addr) (ps : List (Str × Str)) (ls : List Str) (f1 f2 : Str) (t1 t2 : Tok)
    (dp un : Nat) (gd : Option (List Code)) (cn : Str) (cs : Scope) (a : Addr) (ccd : Value) (cl : List (Str × Addr)) (outer : List Env) (A₀ : Around) (base h₀ : Heap) (L : Addr) (m : Str → Option Value) (s : Shared) (Q E : Value → Shared → Prop)
    (M : MkSt s.heap TT od k kd x dx D ps ls) (P : Ap k kd x dx D) (Z : Free h₀ L k kd x dx D) (hlen : ps.length ≤ 10)
    (B : Below A₀ base outer h₀) (F : Fr h₀ L s.heap m) (X : (Mine.hd.heap_1 w.params).In h₀) (T : Top p loose mean mg mb h₀) (hk : cs.kind = .function) (hd : dp + 24 < recursionLimit) (hu : un + 600 < cLine)
    (hret : ∀ ta h' tk', (∀ b o, b ∉ chg x dx D → s.heap.get? b = some o → h'.get? b = some o) → s.heap.get? ta = none → h'.get? ta = some (tupOf' #[.str f1 t1, .str f2 t2]) → MkSt h' (fun b => TT b ∨ b = ta) od k kd x dx D (ps ++ [(f1, f2)]) ls → Q .none { s with heap := h', toks := tk' }) :
    wpAny (model PySem.Challenge.rw_ik0127_01.row.prog w) (ktrTop dp un gd cn cs L a ccd cl outer) (call (.ref 139) [.ref x, .str f1 t1, .str f2 t2]) Q E s := by
  refine wpAny_call ?_
  exact pushMc TT od k kd x dx D ps ls f1 f2 t1 t2 dp un gd cn cs a ccd cl outer A₀ base h₀ L m s Q E M P Z hlen B F X T hk hd hu hret
theorem lenM {w : World} {p : Program} {loose : List Str} {mean : ExcName → Option Value} {mg mb : Str → Option Value} (TT : Addr → Prop) (od : Obj) (k kd x dx D : Addr) (ps : List (Str × Str)) (ls : List Str)
    (dp un : Nat) (gd : Option (List Code)) (cn : Str) (cs : Scope) (a : Addr) (ccd : Value) (cl : List (Str × Addr)) (outer : List Env) (A₀ : Around) (base h₀ : Heap) (L : Addr) (m : Str → Option Value) (s : Shared) (Q E : Value → Shared → Prop)
    (M : MkSt s.heap TT od k kd x dx D ps ls) (P : Ap k kd x dx D) (Z : Free h₀ L k kd x dx D) (C1 : CodeHd base 161 157) (C2 : CodeHd base 168 164) (hg : AllBare s.gens) (hlen : ps.length ≤ 10) (hsz : ∀ q ∈ ps, q.1.length ≤ 100 ∧ q.2.length ≤ 100)
    (B : Below A₀ base outer h₀) (F : Fr h₀ L s.heap m) (X : (Mine.hd.heap_1 w.params).In h₀) (T : Top p loose mean mg mb h₀) (hk : cs.kind = .function) (hd : dp + 24 < recursionLimit) (hu : un + 600 < cLine)
    (hret : ∀ t h' tk' gs', AllBare gs' → (∀ b o, b ∉ chg x dx D → s.heap.get? b = some o → h'.get? b = some o) → MkSt h' TT od k kd x dx D ps ls → Q (.int ((ps.map fun q => (q.1.length : Int) + (q.2.length : Int)).sum) t) { s with heap := h', toks := tk', gens := gs' }) :
    wpAny (model PySem.Challenge.rw_ik0127_01.row.prog w) (ktrTop dp un gd cn cs L a ccd cl outer) (call (.ref 162) [.ref x]) Q E s := by
  obtain ⟨tb1, tb2, its, n, hsh, tk, u, nd, lvs, c, G, hP, hT, hL⟩ := M
  have g1 := led_1 G
  have g2 := led_2 G
  have gx := led_3 G
  have gd := led_4 G
  have gl := led_5 G
  have gk := led_6 G
  have ge := led_7 G
  have N := led_news G Z
  apply Mine.lenC (ps := ps) (tb := tb1) (its := its) (n := n) (dx := dx) (nd := nd) (u := u)
  case B => exact B
  case F => exact F
  case X => exact X
  case T => exact T
  case hk => exact hk
  case hd => lia
  case hu => lia
  case hI => exact ⟨gx, rfl, rfl, gd⟩
  case hP => exact hP
  case hod => rfl
  case hlen => exact hlen
  case hsz => exact hsz
  case N => exact Mine.sub1 N (by k_mem)
  case C => exact C1
  case hg => exact hg
  case hret =>
    intro t h' tk' gs' c' hg' kp h1
    have kpt : ∀ b o, o.cls = .type "tuple" → s.heap.get? b = some o → h'.get? b = some o := fun b o hc e => kp b o (of_chg (tup_chg G hc e)).1 e
    exact hret t h' tk' gs' hg' (fun b o hb e => kp b o (of_chg hb).1 e) ⟨some c', tb2, its, n, hsh, tk, u, nd, lvs, c, led_all h1 (kp _ _ (by decide) g2) (kp _ _ P.x1 gx) (kp _ _ P.d1 gd) (kp _ _ P.l1 gl) (kp _ _ P.k1 gk) (kp _ _ P.e1 ge), hP.keepT kpt, hT, hL⟩
theorem strM {w : World} {p : Program} {loose : List Str} {mean : ExcName → Option Value} {mg mb : Str → Option Value} (TT : Addr → Prop) (od : Obj) (k kd x dx D : Addr) (ps : List (Str × Str)) (ls : List Str)
    (dp un : Nat) (gd : Option (List Code)) (cn : Str) (cs : Scope) (a : Addr) (ccd : Value) (cl : List (Str × Addr)) (outer : List Env) (A₀ : Around) (base h₀ : Heap) (L : Addr) (m : Str → Option Value) (s : Shared) (Q E : Value → Shared → Prop)
    (M : MkSt s.heap TT od k kd x dx D ps ls) (P : Ap k kd x dx D) (Z : Free h₀ L k kd x dx D) (C1 : CodeHd base 161 157) (C2 : CodeHd base 168 164) (hg : AllBare s.gens) (hlen : ps.length ≤ 10) (hsz : ∀ q ∈ ps, q.1.length ≤ 100 ∧ q.2.length ≤ 100)
    (B : Below A₀ base outer h₀) (F : Fr h₀ L s.heap m) (X : (Mine.hd.heap_1 w.params).In h₀) (T : Top p loose mean mg mb h₀) (hk : cs.kind = .function) (hd : dp + 24 < recursionLimit) (hu : un + 600 < cLine)
    (hret : ∀ t h' tk' gs' d', AllBare gs' → (∀ b o, b ∉ chg x dx D → s.heap.get? b = some o → h'.get? b = some o) → MkSt h' TT od k kd x dx D ps ls → Q (.str (catS ps) t) { s with heap := h', toks := tk', gens := gs', drawn := d' }) :
    wpAny (model PySem.Challenge.rw_ik0127_01.row.prog w) (ktrTop dp un gd cn cs L a ccd cl outer) (call (.ref 169) [.ref x]) Q E s := by
  obtain ⟨tb1, tb2, its, n, hsh, tk, u, nd, lvs, c, G, hP, hT, hL⟩ := M
  have g1 := led_1 G
  have g2 := led_2 G
  have gx := led_3 G
  have gd := led_4 G
  have gl := led_5 G
  have gk := led_6 G
  have ge := led_7 G
  have N := led_news G Z
  apply Mine.strC (ps := ps) (tb := tb2) (its := its) (n := n) (dx := dx) (nd := nd) (u := u)
  case B => exact B
  case F => exact F
  case X => exact X
  case T => exact T
  case hk => exact hk
  case hd => lia
  case hu => lia
  case hI => exact ⟨gx, rfl, rfl, gd⟩
  case hP => exact hP
  case hod => rfl
  case hlen => exact hlen
  case hsz => exact hsz
  case N => exact Mine.sub1 N (by k_mem)
  case C => exact C2
  case hg => exact hg
  case hret =>
    intro t h' tk' gs' d' c' hg' kp h1
    have kpt : ∀ b o, o.cls = .type "tuple" → s.heap.get? b = some o → h'.get? b = some o := fun b o hc e => kp b o (of_chg (tup_chg G hc e)).2.1 e
    exact hret t h' tk' gs' d' hg' (fun b o hb e => kp b o (of_chg hb).2.1 e) ⟨tb1, some c', its, n, hsh, tk, u, nd, lvs, c, led_all (kp _ _ (by decide) g1) h1 (kp _ _ P.x2 gx) (kp _ _ P.d2 gd) (kp _ _ P.l2 gl) (kp _ _ P.k2 gk) (kp _ _ P.e2 ge), hP.keepT kpt, hT, hL⟩
theorem popM {w : World} {p : Program} {loose : List Str} {mean : ExcName → Option Value} {mg mb : Str → Option Value} (TT : Addr → Prop) (od : Obj) (k kd x dx D : Addr) (ps : List (Str × Str)) (ls : List Str) (f1 f2 : Str)
    (dp un : Nat) (gd : Option (List Code)) (cn : Str) (cs : Scope) (a : Addr) (ccd : Value) (cl : List (Str × Addr)) (outer : List Env) (A₀ : Around) (base h₀ : Heap) (L : Addr) (m : Str → Option Value) (s : Shared) (Q E : Value → Shared → Prop)
    (M : MkSt s.heap TT od k kd x dx D (ps ++ [(f1, f2)]) ls) (P : Ap k kd x dx D) (Z : Free h₀ L k kd x dx D) (hlen : ps.length ≤ 10)
    (B : Below A₀ base outer h₀) (F : Fr h₀ L s.heap m) (X : (Mine.hd.heap_1 w.params).In h₀) (T : Top p loose mean mg mb h₀) (hk : cs.kind = .function) (hd : dp + 24 < recursionLimit) (hu : un + 600 < cLine)
    (hret : ∀ ta t1 t2 h' tk', (∀ b o, b ∉ chg x dx D → s.heap.get? b = some o → h'.get? b = some o) → MkSt h' TT od k kd x dx D ps ls → h'.IsTuple ta #[.str f1 t1, .str f2 t2] → Q (.ref ta) { s with heap := h', toks := tk' }) :
    wpAny (model PySem.Challenge.rw_ik0127_01.row.prog w) (ktrTop dp un gd cn cs L a ccd cl outer) (call (.ref 155) [.ref x]) Q E s := by
  obtain ⟨tb1, tb2, its, n, hsh, tk, u, nd, lvs, c, G, hP, hT, hL⟩ := M
  have g1 := led_1 G
  have g2 := led_2 G
  have gx := led_3 G
  have gd := led_4 G
  have gl := led_5 G
  have gk := led_6 G
  have ge := led_7 G
  have N := led_news G Z
  have hsz := hP.1
  obtain ⟨vs, rfl⟩ : ∃ vs : List Value, its = vs.toArray := ⟨its.toList, by simp⟩
  simp only [List.size_toArray, List.length_append, List.length_cons, List.length_nil] at hsz
  obtain ⟨ys, v, rfl⟩ : ∃ ys v, vs = ys ++ [v] := ⟨vs.dropLast, vs.getLast (by intro e; rw [e] at hsz; simp at hsz), (List.dropLast_concat_getLast _).symm⟩
  have hyl : ys.length = ps.length := by simp only [List.length_append, List.length_cons, List.length_nil] at hsz; lia
  have hlast := hP.2 ys.length (by simp)
  have e0 : (ps ++ [(f1, f2)]).getD ys.length default = (f1, f2) := by rw [hyl, List.getD_eq_getElem?_getD]; simp
  obtain ⟨ta, t1, t2, e1, e2⟩ := hlast
  rw [e0] at e2
  have e3 : v = .ref ta := by simpa using e1
  subst e3
  have hps : PartsAt s.heap ys.toArray ps := by
    have := parts_take hP ys.length
    rwa [List.take_left, hyl, List.take_left] at this
  apply Mine.popC (dx := dx) (ys := ys) (v := .ref ta) (n := n) (nd := nd) (es := [⟨hsh, .str (Str.ofString "_initial_size") tk, .int 0 u⟩])
  case B => exact B
  case F => exact F
  case X => exact X
  case T => exact T
  case hk => exact hk
  case hd => lia
  case hu => lia
  case N => exact Mine.sub2 N (by k_mem) (Mine.sub1 N (by k_mem))
  case hz => lia
  case ho => rfl
  case hret =>
    intro h' tk' n' kp hx
    have kpt : ∀ b o, o.cls = .type "tuple" → s.heap.get? b = some o → h'.get? b = some o := fun b o hc e => kp b o (of_chg (tup_chg G hc e)).2.2.1 e
    refine hret ta t1 t2 h' tk' (fun b o hb e => kp b o (of_chg hb).2.2.1 e) ⟨tb1, tb2, _, _, hsh, tk, u, nd, lvs, c, led_all (kp _ _ P.x1.symm g1) (kp _ _ P.x2.symm g2) hx (kp _ _ P.xd.symm gd) (kp _ _ P.xl.symm gl) (kp _ _ P.xk.symm gk) (kp _ _ P.xe.symm ge), hps.keepT kpt, InT.sub hT (fun v hv => List.mem_append_left _ hv), hL⟩ ?_
    obtain ⟨ot, eo, hoc, r⟩ := e2
    exact ⟨ot, kpt _ _ hoc eo, hoc, r⟩
theorem popM2 {w : World} {p : Program} {loose : List Str} {mean : ExcName → Option Value} {mg mb : Str → Option Value} (TT : Addr → Prop) (od : Obj) (k kd x dx D : Addr) (ps : List (Str × Str)) (ls : List Str) (tb1 tb2 : Option Addr) (ys : List Value) (ta : Addr) (n : Nat) (hsh : Int) (tk u : Tok) (nd : Nat) (lvs : List Value) (c : Nat)
    (dp un : Nat) (gd : Option (List Code)) (cn : Str) (cs : Scope) (a : Addr) (ccd : Value) (cl : List (Str × Addr)) (outer : List Env) (A₀ : Around) (base h₀ : Heap) (L : Addr) (m : Str → Option Value) (s : Shared) (Q E : Value → Shared → Prop)
    (G : ∀ q ∈ mkLed tb1 tb2 (List.toArray (ys ++ [.ref ta])) n hsh tk u nd lvs c od k kd x dx D, s.heap.get? q.1 = some q.2) (hP : PartsAt s.heap ys.toArray ps) (hT : InT TT ys.toArray) (hL : StrsAre lvs ls) (P : Ap k kd x dx D) (Z : Free h₀ L k kd x dx D) (hlen : ps.length ≤ 10)
    (B : Below A₀ base outer h₀) (F : Fr h₀ L s.heap m) (X : (Mine.hd.heap_1 w.params).In h₀) (T : Top p loose mean mg mb h₀) (hk : cs.kind = .function) (hd : dp + 24 < recursionLimit) (hu : un + 600 < cLine)
    (hret : ∀ h' tk', (∀ b o, b ∉ chg x dx D → s.heap.get? b = some o → h'.get? b = some o) → MkSt h' TT od k kd x dx D ps ls → Q (.ref ta) { s with heap := h', toks := tk' }) :
    wpAny (model PySem.Challenge.rw_ik0127_01.row.prog w) (ktrTop dp un gd cn cs L a ccd cl outer) (call (.ref 155) [.ref x]) Q E s := by
  have g1 := led_1 G
  have g2 := led_2 G
  have gx := led_3 G
  have gd := led_4 G
  have gl := led_5 G
  have gk := led_6 G
  have ge := led_7 G
  have N := led_news G Z
  have hsz := hP.1
  simp only [List.size_toArray] at hsz
  apply Mine.popC (dx := dx) (ys := ys) (v := .ref ta) (n := n) (nd := nd) (es := [⟨hsh, .str (Str.ofString "_initial_size") tk, .int 0 u⟩])
  case B => exact B
  case F => exact F
  case X => exact X
  case T => exact T
  case hk => exact hk
  case hd => lia
  case hu => lia
  case N => exact Mine.sub2 N (by k_mem) (Mine.sub1 N (by k_mem))
  case hz => lia
  case ho => rfl
  case hret =>
    intro h' tk' n' kp hx
    have kpt : ∀ b o, o.cls = .type "tuple" → s.heap.get? b = some o → h'.get? b = some o := fun b o hc e => kp b o (of_chg (tup_chg G hc e)).2.2.1 e
    exact hret h' tk' (fun b o hb e => kp b o (of_chg hb).2.2.1 e) ⟨tb1, tb2, _, _, hsh, tk, u, nd, lvs, c, led_all (kp _ _ P.x1.symm g1) (kp _ _ P.x2.symm g2) hx (kp _ _ P.xd.symm gd) (kp _ _ P.xl.symm gl) (kp _ _ P.xk.symm gk) (kp _ _ P.xe.symm ge), hP.keepT kpt, hT, hL⟩
theorem popFromM {w : World} {p : Program} {loose : List Str} {mean : ExcName → Option Value} {mg mb : Str → Option Value} (TT : Addr → Prop) (od : Obj) (k kd x dx D : Addr) (ps : List (Str × Str)) (ls : List Str) (i : Nat) (ti : Tok)
    (dp un : Nat) (gd : Option (List Code)) (cn : Str) (cs : Scope) (a : Addr) (ccd : Value) (cl : List (Str × Addr)) (outer : List Env) (A₀ : Around) (base h₀ : Heap) (L : Addr) (m : Str → Option Value) (s : Shared) (Q E : Value → Shared → Prop)
    (M : MkSt s.heap TT od k kd x dx D ps ls) (P : Ap k kd x dx D) (Z : Free h₀ L k kd x dx D) (hlen : ps.length ≤ 10) (hi : i ≤ ps.length)
    (B : Below A₀ base outer h₀) (F : Fr h₀ L s.heap m) (X : (Mine.hd.heap_1 w.params).In h₀) (T : Top p loose mean mg mb h₀) (hk : cs.kind = .function) (hd : dp + 24 < recursionLimit) (hu : un + 600 < cLine)
    (hret : ∀ R rvs c' h' tk', (∀ b o, b ∉ chg x dx D → s.heap.get? b = some o → h'.get? b = some o) → MkSt h' TT od k kd x dx D (ps.take i) ls → s.heap.get? R = none → h'.get? R = some (PySem.W.listOf (List.toArray rvs) c') → PartsAt h' (List.toArray rvs) (ps.drop i) → InT TT (List.toArray rvs) → Q (.ref R) { s with heap := h', toks := tk' }) :
    wpAny (model PySem.Challenge.rw_ik0127_01.row.prog w) (ktrTop dp un gd cn cs L a ccd cl outer) (call (.ref 147) [.ref x, .int (i : Int) ti]) Q E s := by
  obtain ⟨tb1, tb2, its, n, hsh, tk, u, nd, lvs, c, G, hP, hT, hL⟩ := M
  have g1 := led_1 G
  have g2 := led_2 G
  have gx := led_3 G
  have gd := led_4 G
  have gl := led_5 G
  have gk := led_6 G
  have ge := led_7 G
  have N := led_news G Z
  have hsz := hP.1
  obtain ⟨vs, rfl⟩ : ∃ vs : List Value, its = vs.toArray := ⟨its.toList, by simp⟩
  simp only [List.size_toArray] at hsz
  apply Mine.popFromC (dx := dx) (vs := vs) (n := n) (nd := nd) (es := [⟨hsh, .str (Str.ofString "_initial_size") tk, .int 0 u⟩])
  case B => exact B
  case F => exact F
  case X => exact X
  case T => exact T
  case hk => exact hk
  case hd => lia
  case hu => lia
  case N => exact Mine.sub2 N (by k_mem) (Mine.sub1 N (by k_mem))
  case hz => lia
  case hk' => lia
  case hret =>
    intro R h' tk' n' kp hx hR ⟨c', hR'⟩
    have kpt : ∀ b o, o.cls = .type "tuple" → s.heap.get? b = some o → h'.get? b = some o := fun b o hc e => kp b o (of_chg (tup_chg G hc e)).2.2.1 e
    exact hret R _ c' h' tk' (fun b o hb e => kp b o (of_chg hb).2.2.1 e) ⟨tb1, tb2, _, _, hsh, tk, u, nd, lvs, c, led_all (kp _ _ P.x1.symm g1) (kp _ _ P.x2.symm g2) hx (kp _ _ P.xd.symm gd) (kp _ _ P.xl.symm gl) (kp _ _ P.xk.symm gk) (kp _ _ P.xe.symm ge), (parts_take hP i).keepT kpt, InT.sub hT (fun v hv => List.mem_of_mem_take hv), hL⟩ hR hR' ((parts_drop hP i).keepT kpt) (InT.sub hT (fun v hv => List.mem_of_mem_drop hv))
theorem resetM0 {w : World} {p : Program} {loose : List Str} {mean : ExcName → Option Value} {mg mb : Str → Option Value} (TT : Addr → Prop) (od : Obj) (k kd x dx D : Addr) (ps : List (Str × Str)) (ls : List Str)
    (dp un : Nat) (gd : Option (List Code)) (cn : Str) (cs : Scope) (a : Addr) (ccd : Value) (cl : List (Str × Addr)) (outer : List Env) (A₀ : Around) (base h₀ : Heap) (L : Addr) (m : Str → Option Value) (s : Shared) (Q E : Value → Shared → Prop)
    (M : MkSt s.heap TT od k kd x dx D ps ls) (P : Ap k kd x dx D) (Z : Free h₀ L k kd x dx D) (hlen : ps.length ≤ 10)
    (B : Below A₀ base outer h₀) (F : Fr h₀ L s.heap m) (X : (Mine.hd.heap_1 w.params).In h₀) (T : Top p loose mean mg mb h₀) (hk : cs.kind = .function) (hd : dp + 24 < recursionLimit) (hu : un + 600 < cLine)
    (hret : ∀ h' tk', (∀ b o, b ∉ chg x dx D → s.heap.get? b = some o → h'.get? b = some o) → MkSt h' TT od k kd x dx D [] ls → Q .none { s with heap := h', toks := tk' }) :
    wpAny (model PySem.Challenge.rw_ik0127_01.row.prog w) (ktrTop dp un gd cn cs L a ccd cl outer) (call (.ref 177) [.ref x]) Q E s := by
  obtain ⟨tb1, tb2, its, n, hsh, tk, u, nd, lvs, c, G, hP, hT, hL⟩ := M
  have g1 := led_1 G
  have g2 := led_2 G
  have gx := led_3 G
  have gd := led_4 G
  have gl := led_5 G
  have gk := led_6 G
  have ge := led_7 G
  have N := led_news G Z
  have hsz := hP.1
  obtain ⟨vs, rfl⟩ : ∃ vs : List Value, its = vs.toArray := ⟨its.toList, by simp⟩
  simp only [List.size_toArray] at hsz
  apply Mine.resetC0 (dx := dx) (vs := vs) (n := n) (nd := nd) (hsh := hsh) (tk0 := tk) (u0 := u)
  case B => exact B
  case F => exact F
  case X => exact X
  case T => exact T
  case hk => exact hk
  case hd => lia
  case hu => lia
  case N => exact Mine.sub2 N (by k_mem) (Mine.sub1 N (by k_mem))
  case hz => lia
  case hret =>
    intro h' tk' n' u' kp hx hd'
    exact hret h' tk' (fun b o hb e => kp b o (of_chg hb).2.2.1 (of_chg hb).2.2.2.1 e) ⟨tb1, tb2, _, _, hsh, tk, u', nd, lvs, c, led_all (kp _ _ P.x1.symm P.d1.symm g1) (kp _ _ P.x2.symm P.d2.symm g2) hx hd' (kp _ _ P.xl.symm P.dl.symm gl) (kp _ _ P.xk.symm P.dk.symm gk) (kp _ _ P.xe.symm P.de.symm ge), ⟨rfl, fun j hj => by simp at hj⟩, InT.nil, hL⟩
theorem resetM1 {w : World} {p : Program} {loose : List Str} {mean : ExcName → Option Value} {mg mb : Str → Option Value} (TT : Addr → Prop) (od : Obj) (k kd x dx D : Addr) (ps : List (Str × Str)) (ls : List Str) (R : Addr) (rvs : List Value) (rc : Nat) (qs : List (Str × Str))
    (dp un : Nat) (gd : Option (List Code)) (cn : Str) (cs : Scope) (a : Addr) (ccd : Value) (cl : List (Str × Addr)) (outer : List Env) (A₀ : Around) (base h₀ : Heap) (L : Addr) (m : Str → Option Value) (s : Shared) (Q E : Value → Shared → Prop)
    (M : MkSt s.heap TT od k kd x dx D ps ls) (P : Ap k kd x dx D) (Z : Free h₀ L k kd x dx D) (hlen : ps.length ≤ 10) (hR : s.heap.get? R = some (PySem.W.listOf rvs.toArray rc)) (hRf : R ≠ L ∧ h₀.get? R = none) (hRD : R ≠ D) (hQ : PartsAt s.heap rvs.toArray qs) (hQT : InT TT rvs.toArray) (hq : qs.length ≤ 10)
    (B : Below A₀ base outer h₀) (F : Fr h₀ L s.heap m) (X : (Mine.hd.heap_1 w.params).In h₀) (T : Top p loose mean mg mb h₀) (hk : cs.kind = .function) (hd : dp + 24 < recursionLimit) (hu : un + 600 < cLine)
    (hret : ∀ h' tk', (∀ b o, b ∉ chg x dx D → s.heap.get? b = some o → h'.get? b = some o) → MkSt h' TT od k kd x dx D qs ls → Q .none { s with heap := h', toks := tk' }) :
    wpAny (model PySem.Challenge.rw_ik0127_01.row.prog w) (ktrTop dp un gd cn cs L a ccd cl outer) (call (.ref 177) [.ref x, .ref R]) Q E s := by
  obtain ⟨tb1, tb2, its, n, hsh, tk, u, nd, lvs, c, G, hP, hT, hL⟩ := M
  have g1 := led_1 G
  have g2 := led_2 G
  have gx := led_3 G
  have gd := led_4 G
  have gl := led_5 G
  have gk := led_6 G
  have ge := led_7 G
  have N := led_news G Z
  have hsz := hP.1
  have hsq := hQ.1
  obtain ⟨vs, rfl⟩ : ∃ vs : List Value, its = vs.toArray := ⟨its.toList, by simp⟩
  simp only [List.size_toArray] at hsz hsq
  apply Mine.resetC1 (dx := dx) (vs := vs) (new := rvs) (n := n) (nd := nd) (hsh := hsh) (tk0 := tk) (u0 := u)
  case B => exact B
  case F => exact F
  case X => exact X
  case T => exact T
  case hk => exact hk
  case hd => lia
  case hu => lia
  case N =>
    intro q hq
    rcases List.mem_cons.mp hq with rfl | hq
    · exact ⟨hR, hRf⟩
    · exact (Mine.sub2 N (by k_mem) (Mine.sub1 N (by k_mem))) q hq
  case hz => lia
  case hz2 => lia
  case hret =>
    intro h' tk' n' u' kp hx hd'
    have kpt : ∀ b o, o.cls = .type "tuple" → s.heap.get? b = some o → h'.get? b = some o := fun b o hc e => kp b o (of_chg (tup_chg G hc e)).2.2.1 (of_chg (tup_chg G hc e)).2.2.2.1 e
    exact hret h' tk' (fun b o hb e => kp b o (of_chg hb).2.2.1 (of_chg hb).2.2.2.1 e) ⟨tb1, tb2, _, _, hsh, tk, u', nd, lvs, c, led_all (kp _ _ P.x1.symm P.d1.symm g1) (kp _ _ P.x2.symm P.d2.symm g2) hx hd' (kp _ _ P.xl.symm P.dl.symm gl) (kp _ _ P.xk.symm P.dk.symm gk) (kp _ _ P.xe.symm P.de.symm ge), hQ.keepT kpt, hQT, hL⟩
theorem onlyM {w : World} {p : Program} {loose : List Str} {mean : ExcName → Option Value} {mg mb : Str → Option Value} (TT : Addr → Prop) (od : Obj) (k kd x dx D : Addr) (ps : List (Str × Str)) (ls : List Str)
    (dp un : Nat) (gd : Option (List Code)) (cn : Str) (cs : Scope) (a : Addr) (ccd : Value) (cl : List (Str × Addr)) (outer : List Env) (A₀ : Around) (base h₀ : Heap) (L : Addr) (m : Str → Option Value) (s : Shared) (Q E : Value → Shared → Prop)
    (M : MkSt s.heap TT od k kd x dx D ps ls) (P : Ap k kd x dx D) (Z : Free h₀ L k kd x dx D) (C1 : CodeHd base 161 157) (C2 : CodeHd base 168 164) (hg : AllBare s.gens) (hlen : ps.length ≤ 10) (hsz : ∀ q ∈ ps, q.1.length ≤ 100 ∧ q.2.length ≤ 100) (hpos : 0 < (ps.map fun q => (q.1.length : Int) + (q.2.length : Int)).sum) (hsp : Txt.isspace (catS ps) = false)
    (B : Below A₀ base outer h₀) (F : Fr h₀ L s.heap m) (X : (Mine.hd.heap_1 w.params).In h₀) (T : Top p loose mean mg mb h₀) (hk : cs.kind = .function) (hd : dp + 24 < recursionLimit) (hu : un + 600 < cLine)
    (hret : ∀ h' tk' gs' d', AllBare gs' → (∀ b o, b ∉ chg x dx D → s.heap.get? b = some o → h'.get? b = some o) → MkSt h' TT od k kd x dx D ps ls → Q (.bool false) { s with heap := h', toks := tk', gens := gs', drawn := d' }) :
    wpAny (model PySem.Challenge.rw_ik0127_01.row.prog w) (ktrTop dp un gd cn cs L a ccd cl outer) (call (.ref 184) [.ref x]) Q E s := by
  obtain ⟨tb1, tb2, its, n, hsh, tk, u, nd, lvs, c, G, hP, hT, hL⟩ := M
  have g1 := led_1 G
  have g2 := led_2 G
  have gx := led_3 G
  have gd := led_4 G
  have gl := led_5 G
  have gk := led_6 G
  have ge := led_7 G
  have N := led_news G Z
  apply Mine.onlyC (dx := dx) (its := its) (n := n) (nd := nd) (hsh := hsh) (tk0 := tk) (u0 := u) (ps := ps) (tb1 := tb1) (tb2 := tb2)
  case B => exact B
  case F => exact F
  case X => exact X
  case T => exact T
  case hk => exact hk
  case hd => lia
  case hu => lia
  case N => exact Mine.sub2 N (by k_mem) (Mine.sub2 N (by k_mem) (Mine.sub2 N (by k_mem) (Mine.sub1 N (by k_mem))))
  case hP => exact hP
  case hlen => exact hlen
  case hsz => exact hsz
  case hpos => exact hpos
  case hsp => exact hsp
  case C1 => exact C1
  case C2 => exact C2
  case hg => exact hg
  case hret =>
    intro h' tk' gs' d' c1 c2 hg' kp h1 h2
    have kpt : ∀ b o, o.cls = .type "tuple" → s.heap.get? b = some o → h'.get? b = some o := fun b o hc e => kp b o (of_chg (tup_chg G hc e)).1 (of_chg (tup_chg G hc e)).2.1 e
    exact hret h' tk' gs' d' hg' (fun b o hb e => kp b o (of_chg hb).1 (of_chg hb).2.1 e) ⟨some c1, some c2, its, n, hsh, tk, u, nd, lvs, c, led_all h1 h2 (kp _ _ P.x1 P.x2 gx) (kp _ _ P.d1 P.d2 gd) (kp _ _ P.l1 P.l2 gl) (kp _ _ P.k1 P.k2 gk) (kp _ _ P.e1 P.e2 ge), hP.keepT kpt, hT, hL⟩
end
section
section
variable {prog : Program} {w : World} {A : Around} {E : Value → Shared → Prop} {s : Shared} {a b : Addr} {x y x' y' : Str} {t u t' u' : Tok}
theorem shaped_two (hx : PyData.strOk x = true) (hy : PyData.strOk y = true) : SeqAt.shaped (.tuple [PyData.str x, PyData.str y]) = true := by
  simp [SeqAt.shaped, PyData.canLay0, PyData.canLayAll0, PyData.depth, PyData.depthAll, hx, hy]
/-- two pairs of texts that differ in the second -/
theorem ne_two {Q : Value → Shared → Prop} (ha : s.heap.IsTuple a #[.str x t, .str y u]) (hb : s.heap.IsTuple b #[.str x' t', .str y' u']) (o1 : PyData.strOk x = true) (o2 : PyData.strOk y = true) (o3 : PyData.strOk x' = true) (o4 : PyData.strOk y' = true)
    (hu : A.units + 64 < cLine) (hne : y ≠ y') (h : Q (.bool true) s) : wpAny (model prog w) A (compareOp .NotEq (.ref a) (.ref b)) Q E s :=
  ne_dataH_same (reads_newDataT (ys := [.str x t, .str y u]) ha (.cons (.str _ t) (.cons (.str _ u) .nil))) (reads_newDataT (ys := [.str x' t', .str y' u']) hb (.cons (.str _ t') (.cons (.str _ u') .nil)))
    (shaped_two o1 o2) (shaped_two o3 o4) hu (SeqAt.noMix_of_shape (.tuples .str) rfl _ _ rfl rfl) (by
      have e : PySem.Spec.same (.tuple [PyData.str x, PyData.str y]) (.tuple [PyData.str x', PyData.str y']) = false := by
        simp [PySem.Spec.same, PySem.Spec.sameAll, hne]
      rw [e]; exact h)
end
section
variable {prog : Program} {w : World} {A : Around} {E : Value → Shared → Prop} {s : Shared} {h₀ : Heap} {L a : Addr} {m : Str → Option Value} {news : List (Addr × Obj)}
/-- the items of a tuple that lies in the heap, handed on with a star -/
theorem star_tup {its : Array Value} {ws : List Value} {Q : List Value → Shared → Prop} (F : Fr h₀ L s.heap m) (N : News h₀ L s.heap news) (ht : s.heap.IsTuple a its) (e : its.toList = ws)
    (hz : its.size ≤ sizeLine) (h : ∀ h', (∀ b o, s.heap.get? b = some o → h'.get? b = some o) → Fr h₀ L h' m → News h₀ L h' news → Q ws { s with heap := h' }) : StarOf (model prog w) A E (.ref a) Q s := by
  obtain ⟨o, ho, hc, n, hd⟩ := ht
  have hT' : s.TypeIs (.ref a) "tuple" := ⟨o, ho, hc⟩
  subst e
  have z : wpAny (model prog w) A (collect (.ref a)) Q E s :=
    wpAny_collect_seq a (.inr rfl) ho hc hd (fun h' hk => h h' hk (F.keeps hk) (N.grown hk)) hz
  delta StarOf notIterableAtAll
  exact wpAny_bind (wpAny_specialOf hT' PySem.F.slot_tuple_iter.lookup (wpAny_pure ⟨rfl, z⟩))
end
theorem parts_snoc {h : Heap} {its : Array Value} {ps : List (Str × Str)} {f1 f2 : Str} (hP : PartsAt h its (ps ++ [(f1, f2)])) :
    ∃ ys ta t1 t2, its = List.toArray (ys ++ [Value.ref ta]) ∧ PartsAt h ys.toArray ps ∧ h.IsTuple ta #[.str f1 t1, .str f2 t2] := by
  have hsz := hP.1
  obtain ⟨vs, rfl⟩ : ∃ vs : List Value, its = vs.toArray := ⟨its.toList, by simp⟩
  simp only [List.size_toArray, List.length_append, List.length_cons, List.length_nil] at hsz
  obtain ⟨ys, v, rfl⟩ : ∃ ys v, vs = ys ++ [v] := ⟨vs.dropLast, vs.getLast (by intro e; rw [e] at hsz; simp at hsz), (List.dropLast_concat_getLast _).symm⟩
  have hyl : ys.length = ps.length := by simp only [List.length_append, List.length_cons, List.length_nil] at hsz; exact Nat.succ.inj hsz
  have hlast := hP.2 ys.length (by simp)
  have e0 : (ps ++ [(f1, f2)]).getD ys.length default = (f1, f2) := by rw [hyl, List.getD_eq_getElem?_getD]; simp
  obtain ⟨ta, t1, t2, e1, e2⟩ := hlast
  rw [e0] at e2
  have e3 : v = .ref ta := by simpa using e1
  subst e3
  have hps : PartsAt h ys.toArray ps := by
    have := parts_take hP ys.length
    rwa [List.take_left, hyl, List.take_left] at this
  exact ⟨ys, ta, t1, t2, rfl, hps, e2⟩
theorem mk_tup {tb1 tb2 : Option Addr} {its : Array Value} {n : Nat} {hsh : Int} {tk u : Tok} {nd : Nat} {lvs : List Value} {c : Nat} {od : Obj} {k kd x dx D : Addr} (hod : od.cls = .type "dict") : ∀ q ∈ mkLed tb1 tb2 its n hsh tk u nd lvs c od k kd x dx D, q.2.cls ≠ .type "tuple" := by
  have st : ∀ a b : String, a ≠ b → Value.type a ≠ Value.type b := fun a b h e => h (Value.type.inj e)
  exact all7 (P := fun q : Addr × Obj => q.2.cls ≠ .type "tuple") (fun e => by cases e) (fun e => by cases e) (fun e => by cases e) (st "dict" "tuple" (by decide)) (st "list" "tuple" (by decide)) (fun e => by cases e) (by rw [hod]; exact st "dict" "tuple" (by decide))
end
section
local macro_rules | `(tactic| walk_at "call ref") => `(tactic| walk_at "M stop")
local macro_rules | `(tactic| walk_at "call builtin:list.append") => `(tactic| walk_at "M stop")
local macro_rules | `(tactic| k_ne) => `(tactic| ((try dsimp only); first | assumption | (refine Ne.symm ?_; assumption)))
local macro_rules | `(tactic| walk_at "getMethod ref") => `(tactic| walk_at "M gm")
theorem sum_nonneg (ps : List (Str × Str)) : 0 ≤ (ps.map fun q => (q.1.length : Int) + (q.2.length : Int)).sum := by
  induction ps with
  | nil => simp
  | cons q l ih => simp only [List.map_cons, List.sum_cons]; omega
theorem sum_pos {ps : List (Str × Str)} {f1 f2 : Str} (h : 0 < f2.length) : 0 < ((ps ++ [(f1, f2)]).map fun q => (q.1.length : Int) + (q.2.length : Int)).sum := by
  have := sum_nonneg ps
  simp only [List.map_append, List.map_cons, List.map_nil, List.sum_append, List.sum_cons, List.sum_nil]
  omega
theorem newlineM {w : World} {p : Program} {loose : List Str} {mean : ExcName → Option Value} {mg mb : Str → Option Value} (TT : Addr → Prop) (od : Obj) (k kd x dx D : Addr) (ps : List (Str × Str)) (ls : List Str) (f1 f2 : Str) (W : Int) (sg : Str)
    (dp un : Nat) (gd : Option (List Code)) (cn : Str) (cs : Scope) (a : Addr) (ccd : Value) (cl : List (Str × Addr)) (outer : List Env) (A₀ : Around) (base h₀ : Heap) (L : Addr) (m : Str → Option Value) (s : Shared) (Q E : Value → Shared → Prop)
    (M : MkSt s.heap TT od k kd x dx D (ps ++ [(f1, f2)]) ls) (P : Ap k kd x dx D) (Z : Free h₀ L k kd x dx D) (hod : IsVF od W sg D x) (C1 : CodeHd base 161 157) (C2 : CodeHd base 168 164) (hg : AllBare s.gens)
    (hlen : ps.length ≤ 9) (hsz : ∀ q ∈ ps ++ [(f1, f2)], q.1.length ≤ 100 ∧ q.2.length ≤ 100) (ho1 : PyData.strOk f1 = true) (ho2 : PyData.strOk f2 = true) (hne : 0 < f2.length) (hls : ls.length ≤ 100) (hsp : Txt.isspace (catS (ps ++ [(f1, f2)])) = false)
    (B : Below A₀ base outer h₀) (F : Fr h₀ L s.heap m) (X : (Mine.hd.heap_1 w.params).In h₀) (T : Top p loose mean mg mb h₀) (hk : cs.kind = .function) (hd : dp + 26 < recursionLimit) (hu : un + 700 < cLine)
    (hret : ∀ h' tk' gs' d', AllBare gs' → (∀ b o, b ∉ chg x dx D → s.heap.get? b = some o → h'.get? b = some o) → MkSt h' TT od k kd x dx D [] (ls ++ [catS (ps ++ [(f1, f2)])]) → Q .none { s with heap := h', toks := tk', gens := gs', drawn := d' }) :
    wpAny (model PySem.Challenge.rw_ik0127_01.row.prog w) (ktrTop dp un gd cn cs L a ccd cl outer) (call (.ref 73) [.ref k]) Q E s := by
  obtain ⟨e1, e2, e3, rfl⟩ := hod
  obtain ⟨tb1, tb2, its, n, hsh, tkk, uu, nd, lvs, c, G, hP, hT, hL⟩ := M
  have gk0 := led_6 G
  have ge0 := led_7 G
  obtain ⟨ys, ta, t1, t2, rfl, hP1, hta⟩ := parts_snoc hP
  have hT1 := InT.sub (ws := ys) hT (fun v hv => List.mem_append_left _ hv)
  have N := led_news G Z
  revert X T; k_fill; intro X T
  refine wpAny_call ?_
  k_dflt (refine' Mine.enterN ?kN ?k1 ?k2 ?k3 ?k5 ?kA ?kF ?kK ?k6 ?k7 ?k8 ?k9 ?kB ?_ ?c2 ?c3 ?c4 ?c5; (case kA | kF => exact rfl); (case kK | kN => assumption); (case k1 | k2 | k3 | k5 => k_asm); (case k6 | k7 => k_is); (case k8 => cb_room); (case k9 => exact BindsTo.of_eq rfl); (case c5 => decide); (case kB => exact locs rfl); (case c2 | c3 | c4 => exact rfl); k_whole; intro _ _ _ _ _ _ _ _ _ _; (try dsimp only); (try k_fold))
  rename_i L' h' g' kg' F' N' B' X' T' kn'
  have Z' := News.free N'
  have kt := keep_not (c := .type "tuple") N kg' (mk_tup rfl)
  have hP' : PartsAt h' ys.toArray ps := hP1.keepT fun b o hc e => F'.keep b o (kt b o hc e)
  have hT' : InT (inG g' TT []) ys.toArray := InT.ground hP1 hT1 kt
  have htg : g'.IsTuple ta #[.str f1 t1, .str f2 t2] := by
    obtain ⟨o, ho, hc, r⟩ := hta
    exact ⟨o, kt _ _ hc ho, hc, r⟩
  clear hP hP1 hta kt hT hT1
  repeat walk_at "M w"
  refine Mine.stopHere ?_
  apply Mine.popM2 (TT := inG g' TT []) (od := vfD e1 e2 e3 W sg D x) (k := k) (kd := kd) (x := x) (dx := dx) (D := D) (ps := ps) (ls := ls) (ys := ys) (ta := ta)
  ((case B | F | X | T => k_asm); (case hk => with_unfolding_all rfl); (case hd => cb_room); (case hu => cb_units))
  case G => exact fun q hq => (N' q hq).1
  case hP => exact hP'
  case hT => exact hT'
  case hL => exact hL
  case P => exact P
  case Z => exact Z'
  case hlen => omega
  case hret =>
    intro h2 tk2 kp2 M2
    have F2 := Fr.mk F' Z' kp2
    clear N' F G N hP' hL hT'
    obtain ⟨tb1, tb2, its, n, hsh, tkk, uu, nd, lvs, c, G, hP, hT, hL⟩ := M2
    have N2 := led_news G Z'
    have K2 := F2.keep
    clear G F'
    repeat walk_at "M w"
    rename Fr _ _ _ _ => F3
    rename News _ _ _ _ => N3
    rename_i tb h3 _
    have P3 := parts_move hP hT (inG_key (ex := []) K2 F3.keep (fun _ h => nomatch h) (fun _ h => nomatch h))
    have N3' : News g' L' h3 (mkLed tb1 tb2 its n hsh tkk uu nd lvs c _ k kd x dx D) := fun q hq => N3 q (.tail _ hq)
    have ht3 : h3.IsTuple ta #[.str f1 t1, .str f2 t2] := by
      obtain ⟨o, ho, r⟩ := htg
      exact ⟨o, F3.keep _ _ ho, r⟩
    refine Mine.ne_two ht3 ⟨_, (N3 _ (.head _)).1, rfl, _, rfl⟩ ho1 ho2 (by decide +kernel) (by decide +kernel) (by cb_units) (fun e => by rw [e] at hne; exact absurd hne (by decide)) ?_
    repeat walk_at "M w"
    refine Mine.starCall ?_
    iterate 3 walk_at "M w"
    rename Fr _ _ _ _ => F4
    rename News _ _ _ _ => N4
    refine Mine.get_accm (X'.keeps F4.keep) (Mine.acc_inst N4 (by k_mem) (by k_mem)) (by exact rfl) (by exact rfl) (by exact rfl) (f := 139) (by exact rfl) (by exact rfl) ?_
    have F5 := F4.push (methodObj (.ref 139) (.ref x))
    have N5 := News.push F4 N4 (methodObj (.ref 139) (.ref x))
    refine Mine.callWith_bs (K := Mine.hd.heap_1 w.params) (f := 139) (self := .ref x) (by rfl) ?_
    walk_at "M w"
    refine Mine.star_tup (its := #[.str f1 t1, .str f2 t2]) F5 N5 ?_ rfl (by rw [sizeLine_eq]; simp) fun h6 k6 F6 N6 => ?_
    · obtain ⟨o, ho, r⟩ := htg
      exact ⟨o, F5.keep _ _ ho, r⟩
    refine ⟨⟨(N6 _ (.head _)).1, X'.keeps F6.keep⟩, ?_⟩
    refine Mine.call_bm (N6 _ (.head _)).1 ?_
    have P6 := parts_move hP hT (inG_key (ex := []) K2 F6.keep (fun _ h => nomatch h) (fun _ h => nomatch h))
    have G6 : ∀ q ∈ mkLed tb1 tb2 its n hsh tkk uu nd lvs c _ k kd x dx D, h6.get? q.1 = some q.2 := fun q hq => (N6 q (.tail _ hq)).1
    apply Mine.pushMc (TT := inG g' TT []) (k := k) (kd := kd) (x := x) (dx := dx) (D := D) (ps := ps) (ls := ls)
    ((case B | F | X | T => k_asm); (case hk => with_unfolding_all rfl); (case hd => cb_room); (case hu => cb_units))
    case M => exact ⟨_, _, _, _, _, _, _, _, _, _, G6, P6, hT, hL⟩
    case P => exact P
    case Z => exact Z'
    case hlen => omega
    case hret =>
      intro tn h7 tk7 kp7 hn7 ht7 M7
      have F7 := Fr.mk F6 Z' kp7
      have fn7 := fresh_of F6 hn7 ht7
      clear N5 F5 N6 F6 P6 G6 hP hT hL K2
      obtain ⟨tb1, tb2, its, n, hsh, tkk, uu, nd, lvs, c, G, hP, hT, hL⟩ := M7
      have N7 := Mine.News.more fn7 (led_news G Z')
      have K7 := F7.keep
      clear G
      replace hT : InT (inG g' TT [tn]) its := hT.mono fun b hb => inG.more hb
      clear N3 N4 P3 ht3
      repeat walk_at "M w"
      rename Fr _ _ _ _ => F8
      rename News _ _ _ _ => N8
      refine len_K F8 X' (Mine.acc_inst N8 (by k_mem) (by k_mem)) (by exact rfl) (by exact rfl) ?_
      have P8 := parts_move hP hT (inG_key (ex := [(tn, tupOf' #[.str f1 t1, .str f2 t2])]) K7 F8.keep (fun q hq => by rw [List.mem_singleton.mp hq]; exact fn7.1) (fun q hq => by rw [List.mem_singleton.mp hq]; exact (N8 _ (.head _)).1))
      have G8 : ∀ q ∈ mkLed tb1 tb2 its n hsh tkk uu nd lvs c _ k kd x dx D, _ := fun q hq => (N8 q (.tail _ hq)).1
      have M8 : MkSt _ (inG g' TT [tn]) _ k kd x dx D (ps ++ [(f1, f2)]) ls := ⟨_, _, _, _, _, _, _, _, _, _, G8, P8, hT, hL⟩
      apply Mine.lenM (TT := inG g' TT [tn]) (k := k) (kd := kd) (x := x) (dx := dx) (D := D) (ps := ps ++ [(f1, f2)]) (ls := ls)
      ((case B | F | X | T => k_asm); (case hk => with_unfolding_all rfl); (case hd => cb_room); (case hu => cb_units))
      case M => exact M8
      case P => exact P
      case Z => exact Z'
      case C1 => exact C1
      case C2 => exact C2
      case hg => exact hg
      case hlen => simp; omega
      case hsz => exact hsz
      case hret =>
        intro t9 h9 tk9 gs9 hg9 kp9 M9
        have hS0 := sum_pos (ps := ps) (f1 := f1) hne
        have hS1 := sum_le (ps := ps ++ [(f1, f2)]) (by simp; omega) hsz
        refine ⟨⟨Int.le_of_lt hS0, by omega⟩, ?_⟩
        generalize hSe : ((ps ++ [(f1, f2)]).map fun q => (q.1.length : Int) + (q.2.length : Int)).sum = S at hS0 hS1 ⊢
        have F9 := Fr.mk F8 Z' kp9
        have fn9 := kp9 _ _ (tup_chg G8 rfl fn7.1) fn7.1
        clear M8 G8 P8 N8 F8 K7 hP hT hL
        obtain ⟨tb1, tb2, its, n, hsh, tkk, uu, nd, lvs, c, G, hP, hT, hL⟩ := M9
        have N9 := Mine.News.more (b := tn) (o := tupOf' #[.str f1 t1, .str f2 t2]) ⟨fn9, fn7.2⟩ (led_news G Z')
        have K9 := F9.keep
        clear G
        repeat walk_at "M w"
        refine Mine.stopHere ?_
        rename Fr _ _ _ _ => F10
        rename News _ _ _ _ => N10
        have P10 := parts_move hP hT (inG_key (ex := [(tn, tupOf' #[.str f1 t1, .str f2 t2])]) K9 F10.keep (fun q hq => by rw [List.mem_singleton.mp hq]; exact fn9) (fun q hq => by rw [List.mem_singleton.mp hq]; exact (N10 _ (.head _)).1))
        have G10 : ∀ q ∈ mkLed tb1 tb2 its n hsh tkk uu nd lvs c _ k kd x dx D, _ := fun q hq => (N10 q (.tail _ hq)).1
        apply Mine.onlyM (TT := inG g' TT [tn]) (k := k) (kd := kd) (x := x) (dx := dx) (D := D) (ps := ps ++ [(f1, f2)]) (ls := ls)
        ((case B | F | X | T => k_asm); (case hk => with_unfolding_all rfl); (case hd => cb_room); (case hu => cb_units))
        case M => exact ⟨_, _, _, _, _, _, _, _, _, _, G10, P10, hT, hL⟩
        case P => exact P
        case Z => exact Z'
        case C1 => exact C1
        case C2 => exact C2
        case hg => exact hg9
        case hlen => simp; omega
        case hsz => exact hsz
        case hpos => rw [hSe]; exact hS0
        case hsp => exact hsp
        case hret =>
          intro h11 tk11 gs11 d11 hg11 kp11 M11
          have F11 := Fr.mk F10 Z' kp11
          have fn11 := kp11 _ _ (tup_chg G10 rfl fn9) fn9
          clear G10 P10 N10 F10 K9 hP hT hL
          obtain ⟨tb1, tb2, its, n, hsh, tkk, uu, nd, lvs, c, G, hP, hT, hL⟩ := M11
          have N11 := Mine.News.more (b := tn) (o := tupOf' #[.str f1 t1, .str f2 t2]) ⟨fn11, fn7.2⟩ (led_news G Z')
          have K11 := F11.keep
          clear G
          repeat walk_at "M w"
          rename Fr _ _ _ _ => F12
          rename News _ _ _ _ => N12
          have P12 := parts_move hP hT (inG_key (ex := [(tn, tupOf' #[.str f1 t1, .str f2 t2])]) K11 F12.keep (fun q hq => by rw [List.mem_singleton.mp hq]; exact fn11) (fun q hq => by rw [List.mem_singleton.mp hq]; exact (N12 _ (.head _)).1))
          have G12 : ∀ q ∈ mkLed tb1 tb2 its n hsh tkk uu nd lvs c _ k kd x dx D, _ := fun q hq => (N12 q (.tail _ hq)).1
          apply kso_call (C := 195) (f := 169) (ox := accObj dx its n) (od := some (iniD hsh tkk uu nd))
          case hu => cb_units
          case X => exact X'.keeps F12.keep
          case I => exact Mine.acc_inst N12 (by k_mem) (by k_mem)
          case hs => exact rfl
          case hf => exact rfl
          case h =>
          apply Mine.strM (TT := inG g' TT [tn]) (k := k) (kd := kd) (x := x) (dx := dx) (D := D) (ps := ps ++ [(f1, f2)]) (ls := ls)
          ((case B | F | X | T => k_asm); (case hk => with_unfolding_all rfl); (case hd => cb_room); (case hu => cb_units))
          case M => exact ⟨_, _, _, _, _, _, _, _, _, _, G12, P12, hT, hL⟩
          case P => exact P
          case Z => exact Z'
          case C1 => exact C1
          case C2 => exact C2
          case hg => exact hg11
          case hlen => simp; omega
          case hsz => exact hsz
          case hret =>
            intro t13 h13 tk13 gs13 d13 hg13 kp13 M13
            have F13 := Fr.mk F12 Z' kp13
            have fn13 := kp13 _ _ (tup_chg G12 rfl fn11) fn11
            clear G12 P12 N12 F12 K11 hP hT hL
            obtain ⟨tb1, tb2, its, n, hsh, tkk, uu, nd, lvs, c, G, hP, hT, hL⟩ := M13
            have N13 := Mine.News.more (b := tn) (o := tupOf' #[.str f1 t1, .str f2 t2]) ⟨fn13, fn7.2⟩ (led_news G Z')
            have K13 := F13.keep
            clear G
            show wpAny _ _ _ _ _ _
            have hDx := P.xl
            have hDd := P.dl
            have hD1 := P.l1
            have hD2 := P.l2
            have hDn : tn ≠ D := get_ne (h := h13) fn13 (N13 (D, PySem.W.listOf lvs.toArray c) (by k_mem)).1 (by intro e; exact absurd (Value.type.inj e) (by decide))
            have hz : lvs.length = ls.length := hL.len_eq
            have hDk := P.lk
            have hDe := P.le
            repeat walk_at "M w"
            refine Mine.stopHere ?_
            rename Fr _ _ _ _ => F14
            rename News _ _ _ _ => N14
            refine' append_K ?F ?N ?U ?k ?z
            case F => exact F14
            case N => exact N14
            case U => exact Upd.tail hDn (Upd.tail hD1.symm (Upd.tail hD2.symm (Upd.tail hDx (Upd.tail hDd (Upd.head (List.forall_mem_cons.mpr ⟨P.lk.symm, List.forall_mem_cons.mpr ⟨P.le.symm, List.forall_mem_nil _⟩⟩))))))
            case z => rw [sizeLine_eq]; simp; omega
            case k =>
            intro h15 F15 N15
            repeat walk_at "M w"
            refine Mine.stopHere ?_
            rename Fr _ _ _ _ => F16
            rename News _ _ _ _ => N16
            rw [List.push_toArray] at N16
            have P16 := parts_move hP hT (inG_key (ex := [(tn, tupOf' #[.str f1 t1, .str f2 t2])]) K13 F16.keep (fun q hq => by rw [List.mem_singleton.mp hq]; exact fn13) (fun q hq => by rw [List.mem_singleton.mp hq]; exact (N16 _ (.head _)).1))
            have G16 : ∀ q ∈ mkLed tb1 tb2 its n hsh tkk uu nd (lvs ++ [.str (catS (ps ++ [(f1, f2)])) t13]) (c + 1) _ k kd x dx D, _ := fun q hq => (N16 q (.tail _ hq)).1
            have hL16 : StrsAre (lvs ++ [.str (catS (ps ++ [(f1, f2)])) t13]) (ls ++ [catS (ps ++ [(f1, f2)])]) := strsAre_append hL (.cons _ _ .nil)
            apply Mine.resetM0 (TT := inG g' TT [tn]) (k := k) (kd := kd) (x := x) (dx := dx) (D := D) (ps := ps ++ [(f1, f2)]) (ls := ls ++ [catS (ps ++ [(f1, f2)])])
            ((case B | F | X | T => k_asm); (case hk => with_unfolding_all rfl); (case hd => cb_room); (case hu => cb_units))
            case M => exact ⟨_, _, _, _, _, _, _, _, _, _, G16, P16, hT, hL16⟩
            case P => exact P
            case Z => exact Z'
            case hlen => simp; omega
            case hret =>
              intro h17 tk17 kp17 M17
              dsimp only
              walk_at "M w"
              exact hret h17 tk17 gs13 d13 hg13 (Mine.keep_all gk0 ge0 kg' F16.keep (led_6 G16) (led_7 G16) kp17) M17.empty
end
section
local macro_rules | `(tactic| walk_at "call ref") => `(tactic| walk_at "M stop")
local macro_rules | `(tactic| k_ne) => `(tactic| ((try dsimp only); first | assumption | (refine Ne.symm ?_; assumption)))
theorem strFM {w : World} {p : Program} {loose : List Str} {mean : ExcName → Option Value} {mg mb : Str → Option Value} (TT : Addr → Prop) (od : Obj) (k kd x dx D : Addr) (ps : List (Str × Str)) (ls : List Str) (f1 f2 : Str) (W : Int) (sg sp : Str) (tsp : Tok)
    (dp un : Nat) (gd : Option (List Code)) (cn : Str) (cs : Scope) (a : Addr) (ccd : Value) (cl : List (Str × Addr)) (outer : List Env) (A₀ : Around) (base h₀ : Heap) (L : Addr) (m : Str → Option Value) (s : Shared) (Q E : Value → Shared → Prop)
    (M : MkSt s.heap TT od k kd x dx D (ps ++ [(f1, f2)]) ls) (P : Ap k kd x dx D) (Z : Free h₀ L k kd x dx D) (hod : IsVF od W sg D x) (C1 : CodeHd base 161 157) (C2 : CodeHd base 168 164) (hg : AllBare s.gens)
    (hlen : ps.length ≤ 9) (hsz : ∀ q ∈ ps ++ [(f1, f2)], q.1.length ≤ 100 ∧ q.2.length ≤ 100) (ho1 : PyData.strOk f1 = true) (ho2 : PyData.strOk f2 = true) (hne : 0 < f2.length) (hls : ls.length ≤ 100) (hll : ∀ y ∈ ls, y.length ≤ 2000) (hsep : sp.length ≤ 10) (hcl : (catS (ps ++ [(f1, f2)])).length ≤ 2000) (hsp : Txt.isspace (catS (ps ++ [(f1, f2)])) = false)
    (B : Below A₀ base outer h₀) (F : Fr h₀ L s.heap m) (X : (Mine.hd.heap_1 w.params).In h₀) (T : Top p loose mean mg mb h₀) (hk : cs.kind = .function) (hd : dp + 28 < recursionLimit) (hu : un + 800 < cLine)
    (hret : ∀ t h' tk' gs' d', AllBare gs' → (∀ b o, b ∉ chg x dx D → s.heap.get? b = some o → h'.get? b = some o) → MkSt h' TT od k kd x dx D [] (ls ++ [catS (ps ++ [(f1, f2)])]) → Q (.str (Txt.join sp (ls ++ [catS (ps ++ [(f1, f2)])])) t) { s with heap := h', toks := tk', gens := gs', drawn := d' }) :
    wpAny (model PySem.Challenge.rw_ik0127_01.row.prog w) (ktrTop dp un gd cn cs L a ccd cl outer) (call (.ref 59) [.ref k, .str sp tsp]) Q E s := by
  obtain ⟨e1, e2, e3, rfl⟩ := hod
  obtain ⟨tb1, tb2, its, n, hsh, tkk, uu, nd, lvs, c, G, hP, hT, hL⟩ := M
  have gk0 := led_6 G
  have ge0 := led_7 G
  have N := led_news G Z
  revert X T; k_fill; intro X T
  refine wpAny_call ?_
  k_dflt (refine' Mine.enterN ?kN ?k1 ?k2 ?k3 ?k5 ?kA ?kF ?kK ?k6 ?k7 ?k8 ?k9 ?kB ?_ ?c2 ?c3 ?c4 ?c5; (case kA | kF => exact rfl); (case kK | kN => assumption); (case k1 | k2 | k3 | k5 => k_asm); (case k6 | k7 => k_is); (case k8 => cb_room); (case k9 => exact BindsTo.of_eq rfl); (case c5 => decide); (case kB => exact locs rfl); (case c2 | c3 | c4 => exact rfl); k_whole; intro _ _ _ _ _ _ _ _ _ _; (try dsimp only); (try k_fold))
  rename_i L' h' g' kg' F' N' B' X' T' kn'
  have Z' := News.free N'
  have kt := keep_not (c := .type "tuple") N kg' (mk_tup rfl)
  have hP' : PartsAt h' its (ps ++ [(f1, f2)]) := hP.keepT fun b o hc e => F'.keep b o (kt b o hc e)
  have hT' : InT (inG g' TT []) its := InT.ground hP hT kt
  have M' : MkSt h' (inG g' TT []) (vfD e1 e2 e3 W sg D x) k kd x dx D (ps ++ [(f1, f2)]) ls := ⟨_, _, _, _, _, _, _, _, _, _, fun q hq => (N' q hq).1, hP', hT', hL⟩
  clear hP kt hT hP' hT'
  iterate 7 walk_at "M w"
  apply Mine.newlineM (TT := inG g' TT []) (od := vfD e1 e2 e3 W sg D x) (k := k) (kd := kd) (x := x) (dx := dx) (D := D) (ps := ps) (ls := ls) (f1 := f1) (f2 := f2) (W := W) (sg := sg)
  ((case B | F | X | T => k_asm); (case hk => with_unfolding_all rfl); (case hd => cb_room); (case hu => cb_units))
  case M => exact M'
  case P => exact P
  case Z => exact Z'
  case hod => exact ⟨_, _, _, rfl⟩
  case C1 => exact C1
  case C2 => exact C2
  case hg => exact hg
  case hlen => exact hlen
  case hsz => exact hsz
  case ho1 => exact ho1
  case ho2 => exact ho2
  case hne => exact hne
  case hls => exact hls
  case hsp => exact hsp
  case hret =>
    intro h2 tk2 gs2 d2 hg2 kp2 M2
    have F2 := Fr.mk F' Z' kp2
    have gk2 := (N' (k, instObj 111 kd) (by k_mem)).1
    have ge2 := (N' (kd, vfD e1 e2 e3 W sg D x) (by k_mem)).1
    have KF' := F'.keep
    clear M' F' N' N G hL
    obtain ⟨tb1, tb2, its, n, hsh, tkk, uu, nd, lvs, c, G, hP, hT, hL⟩ := id M2
    have N2 := led_news G Z'
    iterate 11 walk_at "M w"
    refine join_list (items := lvs.toArray) (ys := ls ++ [catS (ps ++ [(f1, f2)])]) ⟨_, (N2 (D, PySem.W.listOf lvs.toArray c) (by k_mem)).1, rfl, _, rfl⟩ (by simpa using hL) ?_ fun t' tk' => ?_
    · have hs : ((ls ++ [catS (ps ++ [(f1, f2)])]).map (fun x => x.length)).sum ≤ _ := sum_most (l := ls ++ [catS (ps ++ [(f1, f2)])]) (f := Str.length) (B := 2000) (fun y hy => by
        rcases List.mem_append.mp hy with hy | hy
        · exact hll y hy
        · rw [List.mem_singleton.mp hy]; exact hcl)
      have hl2 : (ls ++ [catS (ps ++ [(f1, f2)])]).length ≤ 101 := by simp; omega
      have h3 := Nat.mul_le_mul hl2 hsep
      exact Nat.le_trans (Nat.add_le_add (Nat.le_trans hs (Nat.mul_le_mul_right 2000 hl2)) h3) (by decide)
    · exact hret t' h2 tk' gs2 d2 hg2 (Mine.keep_all gk0 ge0 kg' KF' gk2 ge2 kp2) M2.empty
end
section
theorem gone7 {s h g : Heap} {tb1 tb2 tb1' tb2' : Option Addr} {its its' : Array Value} {n n' : Nat} {hsh hsh' : Int} {tk u tk' u' : Tok} {nd nd' : Nat} {lvs lvs' : List Value} {c c' : Nat} {od od' : Obj} {k kd x dx D : Addr}
    (kg : ∀ b o, s.get? b = some o → b ∉ (mkLed tb1 tb2 its n hsh tk u nd lvs c od k kd x dx D).map (·.1) → g.get? b = some o) (F : ∀ b o, g.get? b = some o → h.get? b = some o) (G : ∀ q ∈ mkLed tb1' tb2' its' n' hsh' tk' u' nd' lvs' c' od' k kd x dx D, h.get? q.1 = some q.2) {b : Addr} (hb : h.get? b = none) : s.get? b = none := by
  cases e : s.get? b with
  | none => rfl
  | some o =>
    by_cases hm : b ∈ (mkLed tb1 tb2 its n hsh tk u nd lvs c od k kd x dx D).map (·.1)
    · obtain ⟨q, hq, rfl⟩ := List.mem_map.mp (show b ∈ (mkLed tb1' tb2' its' n' hsh' tk' u' nd' lvs' c' od' k kd x dx D).map (·.1) from hm)
      rw [G q hq] at hb; cases hb
    · rw [F _ _ (kg b o e hm)] at hb; cases hb
theorem one_sign {x : Str} {i c : Nat} (h : x.length = 1) (hi : i < x.cps.size) (hc : x.cps[i]? = some c) : (⟨#[c]⟩ : Str) = x := by
  obtain ⟨a⟩ := x
  have h1 : a.size = 1 := h
  have h2 : i = 0 := Nat.lt_one_iff.mp (h1 ▸ hi)
  subst h2
  congr 1
  apply Array.ext
  · simp [h1]
  · intro j h3 h4
    have h5 : j = 0 := Nat.lt_one_iff.mp h3
    subst h5
    have h6 : a[0]? = some c := hc
    rw [Array.getElem?_eq_getElem (h1 ▸ Nat.one_pos)] at h6
    have h7 := Option.some.inj h6
    simp [h7]
theorem inG.out {g : Heap} {TT : Addr → Prop} {ex : List Addr} {b : Addr} (h : inG g TT ex b) : TT b ∨ b ∈ ex := h.elim (fun h => .inl h.1) .inr
/-- the width of a line -/
noncomputable abbrev widS (ps : List (Str × Str)) : Int := (ps.map fun q => (q.1.length : Int) + (q.2.length : Int)).sum
/-- the word at j ends with the sign -/
noncomputable def endsW (sg : Str) (ps : List (Str × Str)) (j : Nat) : Prop := Txt.item (ps.getD j default).2 (-1) = sg
theorem range_down (k : Nat) : Builtin.Range.rangeSize (k : Int) 0 (-1) = (k : Int) := by
  unfold Builtin.Range.rangeSize
  rw [if_neg (by decide)]
  split
  · simp
  · omega
theorem small_down {k : Nat} (hk : k ≤ 100) : Builtin.Range.small (k : Int) 0 (-1) = true := by
  unfold Builtin.Range.small
  rw [range_down]
  simp only [Builtin.Range.rangeFitsLong, Bool.and_eq_true, Bool.or_eq_true, decide_eq_true_eq, beq_iff_eq, show ¬ ((-1 : Int) > 0) by decide, if_false]
  refine ⟨⟨⟨⟨?_, ?_⟩, ?_⟩, ?_⟩, ?_⟩ <;> omega
theorem mem_swap {α : Type} {a b : List α} {q : α} (h : q ∈ a ++ b) : q ∈ b ++ a := by
  rw [List.mem_append] at h ⊢
  exact h.symm
theorem mem_swap3 {α : Type} {a b c : List α} {q : α} (h : q ∈ c ++ (a ++ b)) : q ∈ a ++ (b ++ c) := by
  simp only [List.mem_append] at h ⊢
  rcases h with h | h | h
  · exact .inr (.inr h)
  · exact .inl h
  · exact .inr (.inl h)
theorem kk1 {n j k : Nat} (qh : j < n) (qe : k = n - j - 1) : k < n := by rw [qe, Nat.sub_sub]; exact Nat.sub_lt (Nat.zero_lt_of_lt qh) (Nat.succ_pos j)
theorem kk2 {n j k : Nat} (qh : j < n) (qe : k = n - j - 1) : j + 1 + k = n := by rw [qe, Nat.sub_sub]; exact Nat.add_sub_cancel' qh
theorem kk3 {n j k : Nat} (qh : j < n) (qe : k = n - j - 1) : (n : Int) + (j : Int) * -1 - 1 = (k : Int) := by
  rw [← kk2 qh qe, Int.natCast_add, Int.natCast_add, Int.mul_neg, Int.mul_one, Int.add_assoc (j : Int), Int.add_comm (j : Int), Int.add_neg_cancel_right, Int.add_comm]; exact Int.add_sub_cancel _ _
theorem kk4 {n j k : Nat} (qh : j < n) (qe : k = n - j - 1) : n - j = k + 1 := by rw [← kk2 qh qe, Nat.add_assoc, Nat.add_sub_cancel_left, Nat.add_comm]
theorem kk5 {n j k t : Nat} (qh : j < n) (qe : k = n - j - 1) (h1 : n - (j + 1) ≤ t) (ht : ¬ t = k) : n - j ≤ t := by
  rw [kk4 qh qe]; exact Nat.lt_of_le_of_ne (by rw [qe, Nat.sub_sub]; exact h1) (Ne.symm ht)
end
section
local macro_rules | `(tactic| walk_at "call ref") => `(tactic| walk_at "M stop")
local macro_rules | `(tactic| walk_at "call builtin:list.append") => `(tactic| walk_at "M stop")
local macro_rules | `(tactic| walk_at "call builtin:len") => `(tactic| (k_here; (with_reducible show wpAny _ _ (call (Value.builtin "len") [Value.ref _]) _ _ _); (with_reducible refine Mine.stopHere ?_)))
local macro_rules | `(tactic| walk_at "call type:str") => `(tactic| walk_at "M stop")
local macro_rules | `(tactic| k_ne) => `(tactic| ((try dsimp only); first | assumption | (refine Ne.symm ?_; assumption)))
local macro_rules | `(tactic| walk_at "getMethod ref") => `(tactic| walk_at "M gm")
theorem appendM {w : World} {p : Program} {loose : List Str} {mean : ExcName → Option Value} {mg mb : Str → Option Value} (TT : Addr → Prop) (od : Obj) (k kd x dx D : Addr) (ps : List (Str × Str)) (ls : List Str) (f1 f2 : Str) (u1 u2 : Tok) (W : Int) (sg : Str)
    (dp un : Nat) (gd : Option (List Code)) (cn : Str) (cs : Scope) (a : Addr) (ccd : Value) (cl : List (Str × Addr)) (outer : List Env) (A₀ : Around) (base h₀ : Heap) (L : Addr) (m : Str → Option Value) (s : Shared) (Q E : Value → Shared → Prop)
    (M : MkSt s.heap TT od k kd x dx D ps ls) (P : Ap k kd x dx D) (Z : Free h₀ L k kd x dx D) (hod : IsVF od W sg D x) (C1 : CodeHd base 161 157) (C2 : CodeHd base 168 164) (hg : AllBare s.gens)
    (hlen : ps.length ≤ 5) (hsz : ∀ q ∈ ps ++ [(f1, f2)], q.1.length ≤ 100 ∧ q.2.length ≤ 100) (hne : ∀ q ∈ ps ++ [(f1, f2)], 0 < q.2.length) (hls : ls.length ≤ 90) (hsg : sg.length = 1) (hsga : sg.cps.all (· < 128) = true) (hsgs : Txt.isspace sg = false)
    (B : Below A₀ base outer h₀) (F : Fr h₀ L s.heap m) (X : (Mine.hd.heap_1 w.params).In h₀) (T : Top p loose mean mg mb h₀) (hk : cs.kind = .function) (hd : dp + 26 < recursionLimit) (hu : un + 700 < cLine)
    (hstay : ∀ (nw : List (Addr × Obj)) h' tk' gs' d', widS (ps ++ [(f1, f2)]) ≤ W ∨ (∀ j, j < ps.length → ¬ endsW sg ps j) → AllBare gs' → (∀ b o, b ∉ chg x dx D → s.heap.get? b = some o → h'.get? b = some o) → (∀ q ∈ nw, s.heap.get? q.1 = none ∧ h'.get? q.1 = some q.2 ∧ q.2.cls = .type "tuple") →
      MkSt h' (fun b => TT b ∨ b ∈ nw.map (·.1)) od k kd x dx D (ps ++ [(f1, f2)]) ls → Q .none { s with heap := h', toks := tk', gens := gs', drawn := d' })
    (hcut : ∀ (i : Nat) (nw : List (Addr × Obj)) h' tk' gs' d', W < widS (ps ++ [(f1, f2)]) → 1 ≤ i → i ≤ ps.length → endsW sg ps (i - 1) → (∀ j, i ≤ j → j < ps.length → ¬ endsW sg ps j) → AllBare gs' → (∀ b o, b ∉ chg x dx D → s.heap.get? b = some o → h'.get? b = some o) → (∀ q ∈ nw, s.heap.get? q.1 = none ∧ h'.get? q.1 = some q.2 ∧ q.2.cls = .type "tuple") →
      MkSt h' (fun b => TT b ∨ b ∈ nw.map (·.1)) od k kd x dx D ((ps ++ [(f1, f2)]).drop i) (ls ++ [catS ((ps ++ [(f1, f2)]).take i)]) → Q .none { s with heap := h', toks := tk', gens := gs', drawn := d' }) :
    wpAny (model PySem.Challenge.rw_ik0127_01.row.prog w) (ktrTop dp un gd cn cs L a ccd cl outer) (call (.ref 108) [.ref k, .str f1 u1, .str f2 u2]) Q E s := by
  obtain ⟨e1, e2, e3, rfl⟩ := hod
  obtain ⟨tb1, tb2, its, n, hsh, tkk, uu, nd, lvs, c, G, hP, hT, hL⟩ := M
  have gk0 := led_6 G
  have ge0 := led_7 G
  have N := led_news G Z
  revert X T; k_fill; intro X T
  refine wpAny_call ?_
  k_dflt (refine' Mine.enterN ?kN ?k1 ?k2 ?k3 ?k5 ?kA ?kF ?kK ?k6 ?k7 ?k8 ?k9 ?kB ?_ ?c2 ?c3 ?c4 ?c5; (case kA | kF => exact rfl); (case kK | kN => assumption); (case k1 | k2 | k3 | k5 => k_asm); (case k6 | k7 => k_is); (case k8 => cb_room); (case k9 => exact BindsTo.of_eq rfl); (case c5 => decide); (case kB => exact locs rfl); (case c2 | c3 | c4 => exact rfl); k_whole; intro _ _ _ _ _ _ _ _ _ _; (try dsimp only); (try k_fold))
  rename_i L' h' g' kg' F' N' B' X' T' kn'
  have Z' := News.free N'
  have kt := keep_not (c := .type "tuple") N kg' (mk_tup rfl)
  have hP' : PartsAt h' its ps := hP.keepT fun b o hc e => F'.keep b o (kt b o hc e)
  have hT' : InT (inG g' TT []) its := InT.ground hP hT kt
  have M' : MkSt h' (inG g' TT []) (vfD e1 e2 e3 W sg D x) k kd x dx D ps ls := ⟨_, _, _, _, _, _, _, _, _, _, fun q hq => (N' q hq).1, hP', hT', hL⟩
  clear hP kt hT hP'
  have KF' := F'.keep
  iterate 15 walk_at "M w"
  apply Mine.pushM (TT := inG g' TT []) (k := k) (kd := kd) (x := x) (dx := dx) (D := D) (ps := ps) (ls := ls)
  ((case B | F | X | T => k_asm); (case hk => with_unfolding_all rfl); (case hd => cb_room); (case hu => cb_units))
  case M => exact M'
  case P => exact P
  case Z => exact Z'
  case hlen => lia
  case hret =>
    intro tn h2 tk2 kp2 hn2 ht2 M2
    have F2 := Fr.mk F' Z' kp2
    have fn2 := fresh_of F' hn2 ht2
    have gk2 := (N' (k, instObj 111 kd) (by k_mem)).1
    have ge2 := (N' (kd, vfD e1 e2 e3 W sg D x) (by k_mem)).1
    have N0 := N'
    clear M' F' N' N G hL hT'
    obtain ⟨tb1, tb2, its, n, hsh, tkk, uu, nd, lvs, c, G, hP, hT, hL⟩ := M2
    have N2 := Mine.News.more fn2 (led_news G Z')
    have K2 := F2.keep
    clear G
    replace hT : InT (inG g' TT [tn]) its := hT.mono fun b hb => inG.more hb
    have hgn := gone7 kg' KF' (fun q hq => (N0 q hq).1) hn2
    clear N0
    iterate 12 walk_at "M w"
    rename Fr _ _ _ _ => F8
    rename News _ _ _ _ => N8
    refine len_K F8 X' (Mine.acc_inst N8 (by k_mem) (by k_mem)) (by exact rfl) (by exact rfl) ?_
    have P8 := parts_move hP hT (inG_key (ex := [(tn, tupOf' #[.str f1 u1, .str f2 u2])]) K2 F8.keep (fun q hq => by rw [List.mem_singleton.mp hq]; exact fn2.1) (fun q hq => by rw [List.mem_singleton.mp hq]; exact (N8 _ (.head _)).1))
    have G8 : ∀ q ∈ mkLed tb1 tb2 its n hsh tkk uu nd lvs c _ k kd x dx D, _ := fun q hq => (N8 q (.tail _ hq)).1
    apply Mine.lenM (TT := inG g' TT [tn]) (k := k) (kd := kd) (x := x) (dx := dx) (D := D) (ps := ps ++ [(f1, f2)]) (ls := ls)
    ((case B | F | X | T => k_asm); (case hk => with_unfolding_all rfl); (case hd => cb_room); (case hu => cb_units))
    case M => exact ⟨_, _, _, _, _, _, _, _, _, _, G8, P8, hT, hL⟩
    case P => exact P
    case Z => exact Z'
    case C1 => exact C1
    case C2 => exact C2
    case hg => exact hg
    case hlen => simp; lia
    case hsz => exact hsz
    case hret =>
      intro t9 h9 tk9 gs9 hg9 kp9 M9
      have hS0 := sum_nonneg (ps ++ [(f1, f2)])
      have hS1 := sum_le (ps := ps ++ [(f1, f2)]) (by simp; lia) hsz
      refine ⟨⟨hS0, by lia⟩, ?_⟩
      have F9 := Fr.mk F8 Z' kp9
      have fn9 := kp9 _ _ (tup_chg G8 rfl fn2.1) fn2.1
      have kp29 : ∀ b o, b ∉ chg x dx D → h'.get? b = some o → h9.get? b = some o := fun b o hb e => kp9 b o hb (kp2 b o hb e)
      clear G8 P8 N8 F8 K2 hP hT hL
      obtain ⟨tb1, tb2, its, n, hsh, tkk, uu, nd, lvs, c, G, hP, hT, hL⟩ := id M9
      have N9 := Mine.News.more (b := tn) (o := tupOf' #[.str f1 u1, .str f2 u2]) ⟨fn9, fn2.2⟩ (led_news G Z')
      have K9 := F9.keep
      clear G
      generalize hSe : ((ps ++ [(f1, f2)]).map fun q => (q.1.length : Int) + (q.2.length : Int)).sum = S at hS0 hS1 ⊢
      iterate 8 walk_at "M w"
      rotate_left 1
      · rename ¬ (W < S) => hWS
        iterate 3 walk_at "M w"
        exact hstay [(tn, tupOf' #[.str f1 u1, .str f2 u2])] h9 _ gs9 _ (.inl (by show (List.map _ _).sum ≤ W; rw [hSe]; lia)) hg9 (Mine.keep_all gk0 ge0 kg' KF' gk2 ge2 kp29) (fun q hq => by rw [List.mem_singleton.mp hq]; exact ⟨hgn, fn9, rfl⟩) (M9.mono fun b hb => inG.out hb)
      rename W < S => hWS
      apply Mine.forE (h₀ := g') [Str.ofString "ch", Str.ofString "i", Str.ofString "prevpart"] (fun i => i = 0 ∨ ∀ j, j < ps.length → ¬ endsW sg ps j)
      case hx => with_unfolding_all rfl
      case hp => with_unfolding_all rfl
      case hs => intro _; with_unfolding_all rfl
      case hE => passes_own
      case hxt => decide
      iterate 3 walk_at "M w"
      rename Fr _ _ _ _ => F10
      rename News _ _ _ _ => N10
      refine wpAny_pyIter_ascii hsga ?_
      have hlt : ∀ b o, h9.get? b = some o → b ≠ h9.objs.size := fun b o e q => absurd (Heap.lt_size e) (q ▸ Nat.lt_irrefl _)
      refine ⟨h9.objs.size, [h9.objs.size], [h9.objs.size], sg.cps.size, _, _, _, _, rfl, Walks.strAscii (by with_unfolding_all rfl) h9.objs.size sg _, ?hLf, ?hwr, ?hnw, ⟨_, Heap.get?_push_size _ rfl, rfl, rfl⟩, F10.push _, N10.grown (fun b o e => Heap.get?_push_of_some _ e), .inl rfl, ?turn, ?done⟩
      case hLf => intro hm; exact absurd F10.ns.lt ((List.mem_singleton.mp hm) ▸ Nat.lt_irrefl _)
      case hwr => intro b hb; rw [List.mem_singleton.mp hb]; exact next_is_new F10
      case hnw => intro q hq hm; exact hlt _ _ (N10 q hq).1 (List.mem_singleton.mp hm)
      case done =>
        intro u h11 tk11 hI F11 N11
        have hnone : ∀ j, j < ps.length → ¬ endsW sg ps j := hI.resolve_left (by intro e; have e2 : sg.length = sg.cps.size := rfl; lia)
        dsimp only [loopM, kstB] at F11
        have P11 := parts_move hP hT (inG_key (ex := [(tn, tupOf' #[.str f1 u1, .str f2 u2])]) K9 F11.keep (fun q hq => by rw [List.mem_singleton.mp hq]; exact fn9) (fun q hq => by rw [List.mem_singleton.mp hq]; exact (N11 _ (.head _)).1))
        have G11 : ∀ q ∈ mkLed tb1 tb2 its n hsh tkk uu nd lvs c _ k kd x dx D, _ := fun q hq => (N11 q (.tail _ hq)).1
        have K11 := F11.keep
        have fn11 := (N11 _ (.head _)).1
        clear F10 N10
        repeat walk_at "M w"
        refine Mine.stopHere ?_
        apply Mine.popM (TT := inG g' TT [tn]) (k := k) (kd := kd) (x := x) (dx := dx) (D := D) (ps := ps) (ls := ls) (f1 := f1) (f2 := f2)
        ((case B | F | X | T => k_asm); (case hk => with_unfolding_all rfl); (case hd => cb_room); (case hu => cb_units))
        case M => exact ⟨_, _, _, _, _, _, _, _, _, _, G11, P11, hT, hL⟩
        case P => exact P
        case Z => exact Z'
        case hlen => lia
        case hret =>
          intro ta t1 t2 h12 tk12 kp12 M12 ht12
          have F12 := Fr.mk F11 Z' kp12
          have fn12 := kp12 _ _ (tup_chg G11 rfl fn11) fn11
          have gk11 := led_6 G11
          have ge11 := led_7 G11
          clear G11 P11 N11 F11 hP hT hL K9
          obtain ⟨tb1, tb2, its, n, hsh, tkk, uu, nd, lvs, c, G, hP, hT, hL⟩ := M12
          have N12 := Mine.News.more (b := tn) (o := tupOf' #[.str f1 u1, .str f2 u2]) ⟨fn12, fn2.2⟩ (led_news G Z')
          have K12 := F12.keep
          clear G
          iterate 15 walk_at "M w"
          rename Fr _ _ _ _ => F13
          rename News _ _ _ _ => N13
          refine Mine.get_acc (X'.keeps F13.keep) (Mine.acc_inst N13 (by k_mem) (by k_mem)) (by exact rfl) (by exact rfl) (by exact rfl) (findObj_own (by exact rfl) (by exact rfl) (by exact rfl) (by rfl)) rfl ?_
          repeat walk_at "M w"
          refine Mine.stopHere ?_
          rename Fr _ _ _ _ => F14
          rename News _ _ _ _ => N14
          have P14 := parts_move hP hT (inG_key (ex := [(tn, tupOf' #[.str f1 u1, .str f2 u2])]) K12 F14.keep (fun q hq => by rw [List.mem_singleton.mp hq]; exact fn12) (fun q hq => by rw [List.mem_singleton.mp hq]; exact (N14 _ (.head _)).1))
          have G14 : ∀ q ∈ mkLed tb1 tb2 its n hsh tkk uu nd lvs c _ k kd x dx D, _ := fun q hq => (N14 q (.tail _ hq)).1
          have fn14 := (N14 _ (.head _)).1
          apply Mine.pushM (TT := inG g' TT [tn]) (k := k) (kd := kd) (x := x) (dx := dx) (D := D) (ps := ps) (ls := ls)
          ((case B | F | X | T => k_asm); (case hk => with_unfolding_all rfl); (case hd => cb_room); (case hu => cb_units))
          case M => exact ⟨_, _, _, _, _, _, _, _, _, _, G14, P14, hT, hL⟩
          case P => exact P
          case Z => exact Z'
          case hlen => lia
          case hret =>
            intro tm h15 tk15 kp15 hn15 ht15 M15
            have fn15 := kp15 _ _ (tup_chg G14 rfl fn14) fn14
            have gk14 := led_6 G14
            have ge14 := led_7 G14
            have hgm := gone7 kg' F14.keep G14 hn15
            iterate 2 walk_at "M w"
            exact hstay [(tm, tupOf' #[.str f1 t1, .str f2 t2]), (tn, tupOf' #[.str f1 u1, .str f2 u2])] h15 _ gs9 _ (.inr hnone) hg9 (Mine.keep_all gk0 ge0 kg' F14.keep gk14 ge14 kp15) (fun q hq => by
              rcases List.mem_cons.mp hq with rfl | hq
              · exact ⟨hgm, ht15, rfl⟩
              · rw [List.mem_singleton.mp hq]; exact ⟨hgn, fn15, rfl⟩) (M15.mono fun b hb => by
              rcases hb with hb | hb
              · rcases inG.out hb with hb | hb
                · exact .inl hb
                · exact .inr (.tail _ hb)
              · exact .inr (hb ▸ .head _))
      case turn =>
        intro i0 v0 u h11 tk11 own hi hv hInv F11 N11
        obtain ⟨cc, uv, hcc, rfl⟩ := hv
        have hsgc : (⟨#[cc]⟩ : Str) = sg := one_sign hsg hi hcc
        rw [hsgc] at F11
        dsimp only [loopM, kstB] at F11
        have N11' : News g' L' h11 ((tn, tupOf' #[.str f1 u1, .str f2 u2]) :: (mkLed tb1 tb2 its n hsh tkk uu nd lvs c (vfD e1 e2 e3 W sg D x) k kd x dx D ++ own)) := fun q hq => N11 q (by
          rcases List.mem_cons.mp hq with rfl | hq
          · exact List.mem_append_right _ (.head _)
          · rcases List.mem_append.mp hq with hq | hq
            · exact List.mem_append_right _ (.tail _ hq)
            · exact List.mem_append_left _ hq)
        dsimp only [mkLed, List.cons_append, List.nil_append] at N11'
        clear F10 N10 N11
        have hisz : its.size = ps.length + 1 := by have := hP.1; simp at this; lia
        walk_at "M w"
        apply Mine.forE (h₀ := g') [Str.ofString "i", Str.ofString "prevpart"] (fun j => ∀ t, ps.length - j ≤ t → t < ps.length → ¬ endsW sg ps t)
        case hx => with_unfolding_all rfl
        case hp => with_unfolding_all rfl
        case hs => intro _; with_unfolding_all rfl
        case hE => passes_own
        case hxt => decide
        repeat walk_at "M w"
        refine Mine.stopHere ?_
        rename Fr _ _ _ _ => F12
        rename News _ _ _ _ => N12
        apply Mine.partC (dx := dx) (its := its) (n := n) (es := [⟨hsh, .str (Str.ofString "_initial_size") tkk, .int 0 uu⟩]) (nd := nd)
        ((case B | F | X | T => k_asm); (case hk => with_unfolding_all rfl); (case hd => cb_room); (case hu => cb_units))
        case N => exact fun q hq => N12 q (by simp only [List.mem_cons, List.not_mem_nil, or_false] at hq; rcases hq with rfl | rfl; k_mem; k_mem)
        case hz => lia
        case hret =>
          intro t13 h13 tk13 kp13
          rw [hisz]
          have F13 := F12.keeps kp13
          have N13 := N12.grown kp13
          clear F12 N12
          iterate 10 walk_at "M w"
          rename IsRange _ _ _ _ _ _ _ _ => hR
          rename Fr _ _ _ _ => F14
          rename News _ _ _ _ => N14
          rw [show ((ps.length + 1 : Nat) : Int) - 1 = (ps.length : Int) by lia] at hR
          refine wpAny_pyIter_range hR (small_down (by lia)) ?_
          refine ⟨_, [_], [_], ps.length, _, _, _, _, rfl, Walks.range (by with_unfolding_all rfl) _ (ps.length : Int) (-1) ps.length, ?hLf, ?hwr, ?hnw, ?hst, F14.push _, N14.grown (fun b o e => Heap.get?_push_of_some _ e), ?hi0, ?turn, ?done⟩
          case hLf => intro hm; exact absurd F14.ns.lt ((List.mem_singleton.mp hm) ▸ Nat.lt_irrefl _)
          case hwr => intro b hb; rw [List.mem_singleton.mp hb]; exact next_is_new F14
          case hnw => intro q hq hm; exact absurd (Heap.lt_size (N14 q hq).1) ((List.mem_singleton.mp hm) ▸ Nat.lt_irrefl _)
          case hst => show IsRangeIter _ _ _ _ _; rw [range_down]; simpa using Heap.get?_push_size _ rfl
          case hi0 => intro t h1 h2; lia
          case done =>
            intro uf2 h15 tk15 hI2 F15 N15
            iterate 2 walk_at "M w"
            refine ⟨h15, _, _, rfl, F15, fun q hq => N15 q (mem_swap hq), fun z hz => ?_, .inr fun t ht => hI2 t (by lia) ht⟩
            have hz2 : [Str.ofString "i", Str.ofString "prevpart"].contains z = false := by simp at hz ⊢; exact ⟨hz.2.1, hz.2.2⟩
            rw [loopM_off hz2 (List.forall_mem_nil _)]
            show (if z = Str.ofString "ch" then _ else if _ then _ else _) = _
            rw [if_neg (by simp at hz; exact hz.1), hz]
            rfl
          case turn =>
            intro j v1 uf2 h15 tk15 own2 hj hv1 hInv2 F15 N15
            obtain ⟨ti, rfl⟩ := hv1
            dsimp only [loopM, kstB] at F15
            have N15' : News g' L' h15 ((tn, tupOf' #[.str f1 u1, .str f2 u2]) :: (mkLed tb1 tb2 its n hsh tkk uu nd lvs c (vfD e1 e2 e3 W sg D x) k kd x dx D ++ (own ++ own2))) := fun q hq => N15 q (mem_swap hq)
            dsimp only [mkLed, List.cons_append, List.nil_append] at N15'
            clear F14 N14 N15
            iterate 22 walk_at "M w"
            rename Fr _ _ _ _ => F16
            rename News _ _ _ _ => N16
            have P16 := parts_move hP hT (inG_key (ex := [(tn, tupOf' #[.str f1 u1, .str f2 u2])]) K9 F16.keep (fun q hq => by rw [List.mem_singleton.mp hq]; exact fn9) (fun q hq => by rw [List.mem_singleton.mp hq]; exact (N16 _ (.head _)).1))
            obtain ⟨kk, hkk⟩ : ∃ kk, kk = ps.length - j - 1 := ⟨_, rfl⟩
            have hkk2 : kk < ps.length := Mine.kk1 (by assumption) hkk
            obtain ⟨tq, q1, q2, eq1, eq2⟩ := P16.2 kk (by first | exact Nat.le_of_lt hkk2 | lia)
            rw [List.getD_eq_getElem?_getD, List.getElem?_append_left hkk2, ← List.getD_eq_getElem?_getD] at eq2
            have hik : ((ps.length : Int) + (j : Int) * -1 - 1) = (kk : Int) := Mine.kk3 (by assumption) hkk
            rw [hik]
            apply Mine.tail_acc (dx := dx) (its := its) (n := n) (od := iniD hsh tkk uu nd)
            case hs => with_unfolding_all rfl
            case X => exact X'.keeps F16.keep
            case I => exact Mine.acc_inst N16 (by k_mem) (by k_mem)
            case hg =>
            apply Mine.item_acc (dx := dx) (its := its) (n := n) (od := iniD hsh tkk uu nd) (v := .ref tq)
            case X => exact X'.keeps F16.keep
            case I => exact Mine.acc_inst N16 (by k_mem) (by k_mem)
            case h0 => exact az kk
            case hx => simpa using eq1
            case hk => exact Int.ofNat_le.mpr (Nat.le_trans (Nat.le_of_lt hkk2) (Nat.le_trans hlen (by decide)))
            case h =>
            generalize hqw : (ps.getD kk default).2 = qw at eq2
            have hqm : ps.getD kk default ∈ ps ++ [(f1, f2)] := by
              rw [List.getD_eq_getElem?_getD, List.getElem?_eq_getElem hkk2]
              exact List.mem_append_left _ (List.getElem_mem hkk2)
            have hq0 := hne _ hqm
            have hq1 := (hsz _ hqm).2
            rw [hqw] at hq0 hq1
            iterate 3 walk_at "M w"
            iterate 8 walk_at "M w"
            rotate_left 1
            · exfalso; lia
            iterate 10 walk_at "M w"
            by_cases hE : Txt.item qw (-1) = sg
            · rw [show (Txt.item qw (-1) == sg) = true from beq_iff_eq.mpr hE]
              iterate 7 walk_at "M w"
              (try (with_reducible refine (?_ : TurnE _ _ _ _ _ _ _ _ _ _ _))); dsimp only [TurnE]
              iterate 2 walk_at "M w"
              (try (with_reducible refine (?_ : TurnE _ _ _ _ _ _ _ _ _ _ _))); dsimp only [TurnE]
              repeat walk_at "M w"
              refine Mine.stopHere ?_
              rename Fr _ _ _ _ => F17
              rename News _ _ _ _ => N17
              have P17 := parts_move hP hT (inG_key (ex := [(tn, tupOf' #[.str f1 u1, .str f2 u2])]) K9 F17.keep (fun q hq => by rw [List.mem_singleton.mp hq]; exact fn9) (fun q hq => by rw [List.mem_singleton.mp hq]; exact (N17 _ (.head _)).1))
              have N17' : News g' L' _ (mkLed tb1 tb2 its n hsh tkk uu nd lvs c (vfD e1 e2 e3 W sg D x) k kd x dx D ++ (own ++ own2)) := fun q hq => N17 q (.tail _ hq)
              have G17 : ∀ q ∈ mkLed tb1 tb2 its n hsh tkk uu nd lvs c _ k kd x dx D, _ := fun q hq => (N17' q (List.mem_append_left _ hq)).1
              have fn17 := (N17 _ (.head _)).1
              rw [show (ps.length : Int) + (j : Int) * -1 = ((kk + 1 : Nat) : Int) from Int.sub_eq_iff_eq_add.mp hik]
              have gk17 := led_6 G17
              have ge17 := led_7 G17
              have KF17 := F17.keep
              apply Mine.popFromM (TT := inG g' TT [tn]) (k := k) (kd := kd) (x := x) (dx := dx) (D := D) (ps := ps ++ [(f1, f2)]) (ls := ls)
              ((case B | F | X | T => k_asm); (case hk => with_unfolding_all rfl); (case hd => cb_room); (case hu => cb_units))
              case M => exact ⟨_, _, _, _, _, _, _, _, _, _, G17, P17, hT, hL⟩
              case P => exact P
              case Z => exact Z'
              case hlen => simp; first | exact Nat.le_trans (Nat.min_le_right ..) (Nat.le_trans hlen (by decide)) | exact Nat.le_trans hlen (Nat.le_trans (by decide) (Nat.le_add_right 10 kk)) | exact hkk2 | lia
              case hi => simp; first | exact Nat.le_trans (Nat.min_le_right ..) (Nat.le_trans hlen (by decide)) | exact Nat.le_trans hlen (Nat.le_trans (by decide) (Nat.le_add_right 10 kk)) | exact hkk2 | lia
              case hret =>
                intro R rvs rc h18 tk18 kp18 M18 hR0 hR1 hRP hRT
                have F18 := Fr.mk F17 Z' kp18
                have fn18 := kp18 _ _ (tup_chg G17 rfl fn17) fn17
                have fR18 := fresh_of F17 hR0 hR1
                have hRn : ∀ b o, _ = some o → R ≠ b := fun b o (e : Heap.get? _ b = some o) q => by rw [q, e] at hR0; cases hR0
                have hRc : R ∉ chg x dx D := not_chg (hRn _ _ (led_1 G17)) (hRn _ _ (led_2 G17)) (hRn _ _ (led_3 G17)) (hRn _ _ (led_4 G17)) (hRn _ _ (led_5 G17))
                clear G17 P17 N17 N17' F17 hP hT hL
                obtain ⟨tb1, tb2, its, n, hsh, tkk, uu, nd, lvs, c, G, hP, hT, hL⟩ := M18
                have N18 := Mine.News.more fR18 (Mine.News.more (b := tn) (o := tupOf' #[.str f1 u1, .str f2 u2]) ⟨fn18, fn2.2⟩ (led_news G Z'))
                have K18 := F18.keep
                clear G
                repeat walk_at "M w"
                refine Mine.stopHere ?_
                rename Fr _ _ _ _ => F19
                rename News _ _ _ _ => N19
                have key19 := inG_key (g := g') (TT := TT) (ex := [(tn, tupOf' #[.str f1 u1, .str f2 u2])]) K18 F19.keep (fun q hq => by rw [List.mem_singleton.mp hq]; exact fn18) (fun q hq => by rw [List.mem_singleton.mp hq]; exact (N19 _ (.tail _ (.head _))).1)
                have P19 := parts_move hP hT key19
                have RP19 := parts_move hRP hRT key19
                have G19 : ∀ q ∈ mkLed tb1 tb2 its n hsh tkk uu nd lvs c _ k kd x dx D, _ := fun q hq => (N19 q (.tail _ (.tail _ hq))).1
                have fn19 := (N19 _ (.tail _ (.head _))).1
                have fR19 := (N19 _ (.head _)).1
                apply kso_call (C := 195) (f := 169) (ox := accObj dx its n) (od := some (iniD hsh tkk uu nd))
                case hu => cb_units
                case X => exact X'.keeps F19.keep
                case I => exact Mine.acc_inst N19 (by k_mem) (by k_mem)
                case hs => exact rfl
                case hf => exact rfl
                case h =>
                apply Mine.strM (TT := inG g' TT [tn]) (k := k) (kd := kd) (x := x) (dx := dx) (D := D) (ps := (ps ++ [(f1, f2)]).take (kk + 1)) (ls := ls)
                ((case B | F | X | T => k_asm); (case hk => with_unfolding_all rfl); (case hd => cb_room); (case hu => cb_units))
                case M => exact ⟨_, _, _, _, _, _, _, _, _, _, G19, P19, hT, hL⟩
                case P => exact P
                case Z => exact Z'
                case C1 => exact C1
                case C2 => exact C2
                case hg => exact hg9
                case hlen => simp; first | exact Nat.le_trans (Nat.min_le_right ..) (Nat.le_trans hlen (by decide)) | exact Nat.le_trans hlen (Nat.le_trans (by decide) (Nat.le_add_right 10 kk)) | exact hkk2 | lia
                case hsz => exact fun q hq => hsz q (List.mem_of_mem_take hq)
                case hret =>
                  intro t20 h20 tk20 gs20 d20 hg20 kp20 M20
                  have F20 := Fr.mk F19 Z' kp20
                  have fn20 := kp20 _ _ (tup_chg G19 rfl fn19) fn19
                  have fR20 := kp20 _ _ hRc fR19
                  have RP20 := RP19.keepT fun b o hc e => kp20 b o (tup_chg G19 hc e) e
                  have gk19 := led_6 G19
                  have ge19 := led_7 G19
                  clear G19 P19 N19 F19 hP hT hL hRP RP19 key19 K18
                  obtain ⟨tb1, tb2, its, n, hsh, tkk, uu, nd, lvs, c, G, hP, hT, hL⟩ := M20
                  have N20 := Mine.News.more (b := R) ⟨fR20, fR18.2⟩ (Mine.News.more (b := tn) (o := tupOf' #[.str f1 u1, .str f2 u2]) ⟨fn20, fn2.2⟩ (led_news G Z'))
                  have K20 := F20.keep
                  clear G
                  show wpAny _ _ _ _ _ _
                  have hz : lvs.length = ls.length := hL.len_eq
                  have hDn : tn ≠ D := get_ne (h := h20) fn20 (N20 (D, PySem.W.listOf lvs.toArray c) (by k_mem)).1 (by intro e; exact absurd (Value.type.inj e) (by decide))
                  repeat walk_at "M w"
                  refine Mine.stopHere ?_
                  have hRD : R ≠ D := (of_chg hRc).2.2.2.2
                  rename Fr _ _ _ _ => F21
                  rename News _ _ _ _ => N21
                  refine' append_K ?F ?N ?U ?k ?z
                  case F => exact F21
                  case N => exact N21
                  case U => exact Upd.tail hRD (Upd.tail hDn (Upd.tail P.l1.symm (Upd.tail P.l2.symm (Upd.tail P.xl (Upd.tail P.dl (Upd.head (List.forall_mem_cons.mpr ⟨P.lk.symm, List.forall_mem_cons.mpr ⟨P.le.symm, List.forall_mem_nil _⟩⟩)))))))
                  case z => rw [sizeLine_eq]; simp; lia
                  case k =>
                  intro h22 F22 N22
                  rw [List.push_toArray] at N22
                  clear F21 N21
                  repeat walk_at "M w"
                  refine Mine.stopHere ?_
                  rename Fr _ _ _ _ => F23
                  rename News _ _ _ _ => N23
                  have key23 := inG_key (g := g') (TT := TT) (ex := [(tn, tupOf' #[.str f1 u1, .str f2 u2])]) K20 F23.keep (fun q hq => by rw [List.mem_singleton.mp hq]; exact fn20) (fun q hq => by rw [List.mem_singleton.mp hq]; exact (N23 _ (.tail _ (.head _))).1)
                  have P23 := parts_move hP hT key23
                  have RP23 := parts_move RP20 hRT key23
                  have fn23 := (N23 _ (.tail _ (.head _))).1
                  have fR23 := (N23 _ (.head _)).1
                  have G23 : ∀ q ∈ mkLed tb1 tb2 its n hsh tkk uu nd (lvs ++ [.str (catS ((ps ++ [(f1, f2)]).take (kk + 1))) t20]) (c + 1) _ k kd x dx D, _ := fun q hq => (N23 q (.tail _ (.tail _ hq))).1
                  have hL23 : StrsAre (lvs ++ [.str (catS ((ps ++ [(f1, f2)]).take (kk + 1))) t20]) (ls ++ [catS ((ps ++ [(f1, f2)]).take (kk + 1))]) := strsAre_append hL (.cons _ _ .nil)
                  apply Mine.resetM1 (TT := inG g' TT [tn]) (k := k) (kd := kd) (x := x) (dx := dx) (D := D) (ps := (ps ++ [(f1, f2)]).take (kk + 1)) (ls := ls ++ [catS ((ps ++ [(f1, f2)]).take (kk + 1))]) (rvs := rvs) (rc := rc) (qs := (ps ++ [(f1, f2)]).drop (kk + 1))
                  ((case B | F | X | T => k_asm); (case hk => with_unfolding_all rfl); (case hd => cb_room); (case hu => cb_units))
                  case M => exact ⟨_, _, _, _, _, _, _, _, _, _, G23, P23, hT, hL23⟩
                  case P => exact P
                  case Z => exact Z'
                  case hlen => simp; first | exact Nat.le_trans (Nat.min_le_right ..) (Nat.le_trans hlen (by decide)) | exact Nat.le_trans hlen (Nat.le_trans (by decide) (Nat.le_add_right 10 kk)) | exact hkk2 | lia
                  case hR => exact fR23
                  case hRf => exact fR18.2
                  case hRD => exact hRD
                  case hQ => exact RP23
                  case hQT => exact hRT
                  case hq => simp; first | exact Nat.le_trans (Nat.min_le_right ..) (Nat.le_trans hlen (by decide)) | exact Nat.le_trans hlen (Nat.le_trans (by decide) (Nat.le_add_right 10 kk)) | exact hkk2 | lia
                  case hret =>
                    intro h24 tk24 kp24 M24
                    have fn24 := kp24 _ _ (tup_chg G23 rfl fn23) fn23
                    iterate 2 walk_at "M w"
                    refine hcut (kk + 1) [(tn, tupOf' #[.str f1 u1, .str f2 u2])] h24 _ gs20 _ (by show W < (List.map _ _).sum; rw [hSe]; exact hWS) (Nat.le_add_left 1 kk) hkk2 (by show Txt.item (ps.getD kk default).2 (-1) = sg; rw [hqw]; exact hE) (fun t h1 h2 => hInv2 t (Nat.le_trans (Nat.le_of_eq (Mine.kk4 (by assumption) hkk)) h1) h2) hg20 (Mine.keep_all gk0 ge0 kg' F23.keep (led_6 G23) (led_7 G23) kp24) (fun q hq => by rw [List.mem_singleton.mp hq]; exact ⟨hgn, fn24, rfl⟩) (M24.mono fun b hb => inG.out hb)
            · rw [show (Txt.item qw (-1) == sg) = false from beq_eq_false_iff_ne.mpr hE]
              iterate 6 walk_at "M w"
              rename Fr _ _ _ _ => F17
              rename News _ _ _ _ => N17
              refine ⟨_, _, _, rfl, F17, fun q hq => N17 q (mem_swap3 (a := (tn, tupOf' #[.str f1 u1, .str f2 u2]) :: mkLed tb1 tb2 its n hsh tkk uu nd lvs c (vfD e1 e2 e3 W sg D x) k kd x dx D) (b := own) (c := own2) hq), ?off, fun t h1 h2 => ?_⟩
              case off => walk_at "M off"
              by_cases ht : t = kk
              · rw [ht]; unfold endsW; rw [hqw]; exact hE
              · exact hInv2 t (Mine.kk5 (by assumption) hkk (by assumption) ht) h2
end
section
section
variable {prog : Program} {w : World} {A : Around} {E : Value → Shared → Prop} {s : Shared} {h₀ : Heap} {L l : Addr} {m : Str → Option Value} {news : List (Addr × Obj)} {vs : List Value} {ns : List Int}
/-- the first n of a list of ints, whatever expression made the list -/
theorem take_tail {value slice : Expr} {n : Nat} {t : Tok} {Q : Value → Shared → Prop} (F : Fr h₀ L s.heap m) (N : News h₀ L s.heap news) (hl : s.heap.IsList l vs.toArray) (hi : IntsAre vs ns) (hz : vs.length ≤ 1000)
    (h : ∀ D ws h', Fr h₀ L h' m → News h₀ L h' ((D, PySem.W.listOf (List.toArray ws) 0) :: news) → (∀ p ∈ news, p.1 < D) → IntsAre ws (ns.take n) → Q (.ref D) { s with heap := h' })
    (hs : subscripted slice false (.ref l) (.ref s.heap.objs.size) = operate [.ref s.heap.objs.size, .ref l] (getItem (.ref l) (.ref s.heap.objs.size))) :
    wpAny (model prog w) A (subscriptTail value slice (.ref l) (.ref s.heap.objs.size)) Q E { s with heap := s.heap.push { cls := .type "slice", data := .fields #[.none, .int (n : Int) t, .none] } } := by
  refine tail_any (Heap.IsList.typeIs (s := { s with heap := s.heap.push { cls := .type "slice", data := .fields #[.none, .int (n : Int) t, .none] } }) (hl.push _)) list_getitem_lookup
    (wpAny_getItem_list_slice (hl.push _) (Heap.IsSliceOf.new ..) .none (.int _ _) .none (by simp) ?_ (by rw [List.size_toArray, sizeLine_eq]; omega)) hs
  have N1 := News.push (F.push { cls := .type "slice", data := .fields #[.none, .int (n : Int) t, .none] }) (N.grown fun _ _ e => Heap.get?_push_of_some _ e) { cls := .type "list", data := .seq (slicePick vs.toArray none (some (n : Int)) none) }
  rw [Heap.size_push] at N1
  show Q (.ref (s.heap.push _).objs.size) _
  rw [Heap.size_push]
  rw [slicePick_upto'] at N1 ⊢
  exact h _ _ _ ((F.push _).push _) N1 (fun p hp => Nat.lt_succ_of_lt (Heap.lt_size (N p hp).1)) (hi.take n)
end
section
variable {prog : Program} {w : World} {A : Around} {E : Value → Shared → Prop} {s : Shared} {x : Str} {t : Tok} {Q : Value → Shared → Prop}
/-- slices of a text: all of the heap is kept -/
theorem sliceK_ns {value slice : Expr} {j : Int} {uj : Tok} (h : ∀ h' t' k, (∀ b o, s.heap.get? b = some o → h'.get? b = some o) → Q (.str (Txt.slice x none (some j)) t') { s with heap := h', toks := k })
    (hs : subscripted slice false (.str x t) (.ref s.heap.objs.size) = operate [.ref s.heap.objs.size, .str x t] (getItem (.str x t) (.ref s.heap.objs.size)))
    (ht : ∀ r, letTemporaryGo value (.str x t) r = pure ()) (hsz : x.length ≤ 1000) :
    wpAny (model prog w) A (subscriptTail value slice (.str x t) (.ref s.heap.objs.size)) Q E { s with heap := s.heap.push { cls := .type "slice", data := .fields #[.none, .int j uj, .none] } } :=
  tail_of_ItemOn (SBH.sliceItem_ns (P := fun h => ∀ b o, s.heap.get? b = some o → h.get? b = some o) (fun _ ob k b o e => Heap.get?_push_of_some ob (k b o e)) (fun _ _ e => e) (fun h' t' k hk => h h' t' k hk) (by rw [sizeLine_eq]; omega)) hs ht
theorem sliceK_sn {value slice : Expr} {i : Int} {ui : Tok} (h : ∀ h' t' k, (∀ b o, s.heap.get? b = some o → h'.get? b = some o) → Q (.str (Txt.slice x (some i) none) t') { s with heap := h', toks := k })
    (hs : subscripted slice false (.str x t) (.ref s.heap.objs.size) = operate [.ref s.heap.objs.size, .str x t] (getItem (.str x t) (.ref s.heap.objs.size)))
    (ht : ∀ r, letTemporaryGo value (.str x t) r = pure ()) (hsz : x.length ≤ 1000) :
    wpAny (model prog w) A (subscriptTail value slice (.str x t) (.ref s.heap.objs.size)) Q E { s with heap := s.heap.push { cls := .type "slice", data := .fields #[.int i ui, .none, .none] } } :=
  tail_of_ItemOn (SBH.sliceItem_sn (P := fun h => ∀ b o, s.heap.get? b = some o → h.get? b = some o) (fun _ ob k b o e => Heap.get?_push_of_some ob (k b o e)) (fun _ _ e => e) (fun h' t' k hk => h h' t' k hk) (by rw [sizeLine_eq]; omega)) hs ht
theorem ns_keeps {h h' : Heap} {C : Addr} {m : Str → Option Value} (n : h.Ns C m) (k : ∀ b o, h.get? b = some o → h'.get? b = some o) : h'.Ns C m := by
  obtain ⟨o, es, ep, e, r⟩ := n
  exact ⟨o, es, ep, k _ _ e, r⟩
end
end
section
noncomputable def chkW (x : Str) : Bool := !x.cps.toList.isEmpty && decide (x.cps.toList.length ≤ 3) && x.cps.toList.all fun c => (c != 10 && decide (c < 200)) && !Unicode.isSpace c
theorem fmod2 (q : Int) : q.fmod 2 = 0 ∨ q.fmod 2 = 1 := by
  have h1 := Int.fmod_nonneg_of_pos q (b := 2) (by decide)
  have h2 := Int.fmod_lt_of_pos q (b := 2) (by decide)
  lia
theorem chk_word (q : Int) (k : Nat) (hk : k < 5) {sg ot : Str} (h : (sg = mkS [59] ∧ ot = mkS [44]) ∨ (sg = mkS [44] ∧ ot = mkS [59])) : chkW (wordAt q sg ot k) = true := by
  delta wordAt behindOf
  have hk5 : k = 0 ∨ k = 1 ∨ k = 2 ∨ k = 3 ∨ k = 4 := (show ∀ k, k < 5 → k = 0 ∨ k = 1 ∨ k = 2 ∨ k = 3 ∨ k = 4 by decide) k hk
  rcases fmod2 q with e1 | e1 <;> rw [e1] <;> rcases fmod4 (q.fdiv 2) with e2 | e2 | e2 | e2 <;> rw [e2] <;> rcases h with ⟨rfl, rfl⟩ | ⟨rfl, rfl⟩ <;> rcases hk5 with rfl | rfl | rfl | rfl | rfl <;> decide +kernel
theorem chk_words (ns : List Int) {sg ot : Str} (h : (sg = mkS [59] ∧ ot = mkS [44]) ∨ (sg = mkS [44] ∧ ot = mkS [59])) : ∀ i, i ≤ 5 → ∀ x ∈ wordsTo ns sg ot i, chkW x = true
  | 0, _, _, hx => by cases hx
  | i + 1, hi, x, hx => by
    rw [wordsTo_succ] at hx
    rcases List.mem_append.mp hx with hx | hx
    · exact chk_words ns h i (by lia) x hx
    · rw [List.mem_singleton.mp hx]; exact chk_word _ i (by lia) h
theorem chk_is {x : Str} (h : chkW x = true) : x.cps.toList ≠ [] ∧ x.cps.toList.length ≤ 3 ∧ (∀ c ∈ x.cps.toList, c ≠ 10 ∧ c < 200) ∧ 1 ≤ x.length ∧ x.length ≤ 3 := by
  delta chkW at h
  simp only [Bool.and_eq_true, Bool.not_eq_true', decide_eq_true_eq, List.all_eq_true, bne_iff_ne, List.isEmpty_eq_false_iff] at h
  obtain ⟨⟨h1, h2⟩, h3⟩ := h
  have hl : x.length = x.cps.toList.length := by simp [Str.length]
  have := List.length_pos_iff.mpr h1
  exact ⟨h1, h2, fun c hc => (h3 c hc).1, by lia, by lia⟩
theorem chk_sp {x : Str} (h : chkW x = true) : ∀ c ∈ x.cps.toList, Unicode.isSpace c = false := by
  delta chkW at h
  simp only [Bool.and_eq_true, Bool.not_eq_true', decide_eq_true_eq, List.all_eq_true, bne_iff_ne, List.isEmpty_eq_false_iff] at h
  exact fun c hc => (h.2 c hc).2
/-- the words as lists of code points -/
noncomputable def wlOf (ws : List Str) : List (List Nat) := ws.map (·.cps.toList)
theorem wl_mk (ws : List Str) : (wlOf ws).map mkS = ws := by
  delta wlOf
  rw [List.map_map]
  conv => rhs; rw [← List.map_id ws]
  exact List.map_congr_left fun x _ => mkS_cps x
theorem step_le {sg : Str} {ss : List Int} {x : Str} {v : Int} (hx : x.length ≤ 3) (hv : 0 ≤ v) (hs : ss ≠ []) (h : ∀ e ∈ ss, e ≤ v) : ∀ e ∈ sizeStep sg ss x, e ≤ v + 4 := by
  obtain ⟨pre, z, rfl⟩ : ∃ pre z, ss = pre ++ [z] := ⟨ss.dropLast, ss.getLast hs, (List.dropLast_concat_getLast hs).symm⟩
  rw [sizeStep_snoc]
  have hz := h z (by simp)
  have key : ∀ e ∈ pre ++ [z + (1 + (x.length : Int))], e ≤ v + 4 := by
    intro e he
    rcases List.mem_append.mp he with he | he
    · have := h e (List.mem_append_left _ he); lia
    · rw [List.mem_singleton.mp he]; lia
  split
  · intro e he
    rcases List.mem_append.mp he with he | he
    · exact key e he
    · rw [List.mem_singleton.mp he]; lia
  · exact key
theorem fold_le {sg : Str} : ∀ (l : List Str) {ss : List Int} {v : Int}, (∀ x ∈ l, x.length ≤ 3) → 0 ≤ v → ss ≠ [] → (∀ e ∈ ss, e ≤ v) → ∀ e ∈ l.foldl (sizeStep sg) ss, e ≤ v + 4 * l.length
  | [], _, _, _, _, _, h => fun e he => by simpa using h e he
  | x :: l, ss, v, hl, hv, hs, h => fun e he => by
    have := fold_le l (fun y hy => hl y (.tail _ hy)) (by lia) step_ne (step_le (sg := sg) (hl x (.head _)) hv hs h) e he
    rw [List.length_cons]; lia
theorem widest_bounds {sg : Str} {ws : List Str} (hn : ws.length = 5) (hw : ∀ x ∈ ws, 1 ≤ x.length ∧ x.length ≤ 3) {M : Int} (hM : ((sizesOf sg ws).max?).getD 0 = M) : 1 ≤ M ∧ M ≤ 20 := by
  cases ws with
  | nil => cases hn
  | cons w r =>
    have hne : sizesOf sg (w :: r) ≠ [] := fold_ne _ (by simp)
    obtain ⟨m, hm⟩ : ∃ m, (sizesOf sg (w :: r)).max? = some m := by
      cases e : (sizesOf sg (w :: r)).max? with
      | none => rw [List.max?_eq_none_iff] at e; exact absurd e hne
      | some m => exact ⟨m, rfl⟩
    rw [hm] at hM
    simp only [Option.getD_some] at hM
    subst hM
    obtain ⟨h1, h2⟩ := List.max?_eq_some_iff.mp hm
    have hle := fold_le (sg := sg) (w :: r) (ss := [-1]) (v := 0) (fun x hx => (hw x hx).2) (by decide) (by simp) (by simp) m h1
    have hw1 := (hw w (.head _)).1
    have h3 : ∃ e ∈ sizeStep sg [-1] w, (1 : Int) ≤ e := by
      have : sizeStep sg ([] ++ [-1]) w = _ := sizeStep_snoc sg [] (-1) w
      rw [List.nil_append] at this
      rw [this]
      split <;> exact ⟨-1 + (1 + (w.length : Int)), by simp, by lia⟩
    obtain ⟨e, he, hv⟩ := fold_keeps (sg := sg) r step_ne h3
    have := h2 e he
    rw [List.length_cons] at hle hn
    rw [hn] at hle
    exact ⟨Int.le_trans hv this, Int.le_trans hle (by decide)⟩
section
variable {mx d : Int} (h : 1 ≤ mx ∧ mx ≤ 20) (h6 : 0 ≤ d ∧ d < 6)
include h h6
theorem mx1 : 1 ≤ mx + d + 1 := Int.le_trans h.1 (Int.le_trans (Int.le_add_of_nonneg_right h6.1) (Int.le_add_of_nonneg_right (by decide)))
theorem mx2 : (mx + d + 1).toNat ≤ 90 := Int.toNat_le.mpr (Int.le_trans (Int.add_le_add_right (Int.add_le_add h.2 (Int.le_of_lt h6.2)) 1) (by decide))
theorem mx3 (e : (mx + d + 1).toNat = 0) : False := absurd (Int.toNat_eq_zero.mp e) (Int.not_le.mpr (Int.lt_of_lt_of_le (by decide) (mx1 h h6)))
end
end
section
theorem cutI_none_of {sg : Nat} {ws : List (List Nat)} : ∀ {n : Nat}, (∀ j, j < n → endsS sg (ws.getD j []) = false) → cutI sg ws n = none
  | 0, _ => rfl
  | n + 1, h => by
    unfold cutI
    rw [h n (Nat.lt_succ_self n), if_neg (by decide)]
    exact cutI_none_of fun j hj => h j (Nat.lt_succ_of_lt hj)
theorem cutI_some_of {sg : Nat} {ws : List (List Nat)} {i : Nat} : ∀ {n : Nat}, 1 ≤ i → i ≤ n → endsS sg (ws.getD (i - 1) []) = true → (∀ j, i ≤ j → j < n → endsS sg (ws.getD j []) = false) → cutI sg ws n = some i
  | 0, h1, h2, _, _ => absurd (Nat.le_trans h1 h2) (Nat.not_succ_le_zero 0)
  | n + 1, h1, h2, h3, h4 => by
    unfold cutI
    by_cases hi : i = n + 1
    · subst hi
      rw [if_pos (by simpa using h3)]
    · have hj := Nat.le_of_lt_succ (Nat.lt_of_le_of_ne h2 hi)
      rw [h4 n hj (Nat.lt_succ_self n), if_neg (by decide)]
      exact cutI_some_of h1 hj h3 fun j a b => h4 j a (Nat.lt_succ_of_lt b)
/-- the pairs that stand for a group of words -/
noncomputable def psOf (lead : Nat) : List (List Nat) → List (Str × Str)
  | [] => []
  | w :: r => (mkS (List.replicate lead 32), mkS w) :: r.map fun v => (mkS [32], mkS v)
theorem psOf_len (lead : Nat) (g : List (List Nat)) : (psOf lead g).length = g.length := by cases g <;> simp [psOf]
theorem psOf_snoc {lead : Nat} {g : List (List Nat)} {w : List Nat} (h : g ≠ []) : psOf lead (g ++ [w]) = psOf lead g ++ [(mkS [32], mkS w)] := by
  cases g with
  | nil => exact absurd rfl h
  | cons a r => simp [psOf]
theorem psOf_drop {lead i : Nat} {g : List (List Nat)} (h : 1 ≤ i) : (psOf lead g).drop i = psOf 1 (g.drop i) := by
  obtain ⟨i, rfl⟩ : ∃ k, i = k + 1 := ⟨i - 1, (Nat.sub_add_cancel (by assumption)).symm⟩
  cases g with
  | nil => simp [psOf]
  | cons a r =>
    simp only [psOf, List.drop_succ_cons]
    rw [← List.map_drop]
    cases r.drop i <;> simp [psOf]
theorem psOf_take {lead i : Nat} {g : List (List Nat)} (h : 1 ≤ i) : (psOf lead g).take i = psOf lead (g.take i) := by
  obtain ⟨i, rfl⟩ : ∃ k, i = k + 1 := ⟨i - 1, (Nat.sub_add_cancel (by assumption)).symm⟩
  cases g with
  | nil => simp [psOf]
  | cons a r => simp [psOf, List.map_take]
theorem psOf_snd {lead j : Nat} {g : List (List Nat)} (h : j < g.length) : ((psOf lead g).getD j default).2 = mkS (g.getD j []) := by
  cases g with
  | nil => simp at h
  | cons a r =>
    cases j with
    | zero => simp [psOf]
    | succ j =>
      have h2 : j < r.length := by simpa using h
      simp [psOf, List.getD_eq_getElem?_getD, List.getElem?_map, List.getElem?_eq_getElem h2]
theorem psOf_mem {lead : Nat} {g : List (List Nat)} {q : Str × Str} (hl : lead ≤ 1) (h : q ∈ psOf lead g) : q.1.length ≤ 1 ∧ ∃ w ∈ g, q.2 = mkS w := by
  cases g with
  | nil => simp [psOf] at h
  | cons a r =>
    simp only [psOf, List.mem_cons, List.mem_map] at h
    rcases h with rfl | ⟨v, hv, rfl⟩
    · exact ⟨by rw [mkS_len]; simpa using hl, a, .head _, rfl⟩
    · exact ⟨by rw [mkS_len]; simp, v, .tail _ hv, rfl⟩
/-- a row -/
noncomputable def rowL (lead : Nat) (g : List (List Nat)) : List Nat := List.replicate lead 32 ++ blankJoin g
theorem rowL_snoc {lead : Nat} {g : List (List Nat)} {w : List Nat} (h : g ≠ []) : rowL lead (g ++ [w]) = rowL lead g ++ 32 :: w := by
  unfold rowL; rw [blankJoin_snoc g w h]; simp
theorem tjoin (sep : Str) (xs : List Str) : Txt.join sep xs = Str.join sep xs := StrLaws.glued_eq_join sep xs
theorem sjoin_nil : ∀ xs : List (List Nat), Str.join (Str.ofString "") (xs.map mkS) = mkS xs.flatten
  | [] => by decide
  | [x] => by simp [Str.join]
  | x :: y :: r => by
    have ih := sjoin_nil (y :: r)
    have e : Str.ofString "" = mkS [] := by decide
    show mkS x ++ Str.ofString "" ++ Str.join (Str.ofString "") ((y :: r).map mkS) = _
    rw [ih, e, mkS_app, mkS_app]
    simp
theorem tjoin_nil (xs : List (List Nat)) : Txt.join (Str.ofString "") (xs.map mkS) = mkS xs.flatten := by rw [tjoin, sjoin_nil]
theorem catS_map (l : List (List Nat × List Nat)) : catS (l.map fun q => (mkS q.1, mkS q.2)) = mkS (l.flatMap fun q => q.1 ++ q.2) := by
  unfold catS
  have e : (l.map fun q => (mkS q.1, mkS q.2)).map (fun q => Txt.join (Str.ofString "") [q.1, q.2]) = (l.map fun q => q.1 ++ q.2).map mkS := by
    rw [List.map_map, List.map_map]
    refine List.map_congr_left fun q _ => ?_
    have := tjoin_nil [q.1, q.2]
    simpa using this
  rw [e, tjoin_nil, List.flatMap]
theorem psOf_map (lead : Nat) (g : List (List Nat)) : ∃ l : List (List Nat × List Nat), psOf lead g = l.map (fun q => (mkS q.1, mkS q.2)) ∧ (g ≠ [] → l.flatMap (fun q => q.1 ++ q.2) = rowL lead g) := by
  cases g with
  | nil => exact ⟨[], rfl, fun h => absurd rfl h⟩
  | cons a r =>
    refine ⟨(List.replicate lead 32, a) :: r.map fun v => ([32], v), by simp [psOf], fun _ => ?_⟩
    unfold rowL
    simp only [List.flatMap_cons, List.flatMap_map]
    have key : ∀ (x : List Nat) (r : List (List Nat)), x ++ r.flatMap (fun v => [32] ++ v) = blankJoin (x :: r) := by
      intro x r
      induction r generalizing x with
      | nil => simp [blankJoin]
      | cons y r ih =>
        simp only [List.flatMap_cons]
        rw [← List.append_assoc, List.append_assoc x, List.append_assoc [32], ]
        show x ++ (32 :: (y ++ r.flatMap fun v => [32] ++ v)) = x ++ 32 :: blankJoin (y :: r)
        rw [ih y]
    rw [← key a r, List.append_assoc]
theorem cat_psOf {lead : Nat} {g : List (List Nat)} (h : g ≠ []) : catS (psOf lead g) = mkS (rowL lead g) := by
  obtain ⟨l, e, hl⟩ := psOf_map lead g
  rw [e, catS_map, hl h]
theorem wid_map (l : List (List Nat × List Nat)) : widS (l.map fun q => (mkS q.1, mkS q.2)) = ((l.flatMap fun q => q.1 ++ q.2).length : Int) := by
  induction l with
  | nil => simp [widS]
  | cons q l ih =>
    simp only [widS, List.map_cons, List.sum_cons, List.flatMap_cons, List.length_append, mkS_len] at ih ⊢
    rw [ih]; push_cast; omega
theorem wid_psOf {lead : Nat} {g : List (List Nat)} (h : g ≠ []) : widS (psOf lead g) = ((lead + (blankJoin g).length : Nat) : Int) := by
  obtain ⟨l, e, hl⟩ := psOf_map lead g
  rw [e, wid_map, hl h]
  unfold rowL
  simp
end
section
theorem rowsOf_snoc (done : List (List (List Nat))) (g : List (List Nat)) : rowsOf (done ++ [g]) = rowsOf done ++ [rowL (if done = [] then 0 else 1) g] := by
  cases done with
  | nil => simp [rowsOf, rowL]
  | cons a r => simp [rowsOf, rowL]
/-- where the writer stands behind i further words -/
noncomputable def WSt (cc W : Nat) (w0 : List Nat) (rest : List (List Nat)) (i : Nat) (done : List (List (List Nat))) (lead : Nat) (cur : List (List Nat)) : Prop :=
  cur ≠ [] ∧ lead = (if done = [] then 0 else 1) ∧ wr cc W 0 [w0] rest = done ++ wr cc W lead cur (rest.drop i) ∧ done.flatten ++ cur = w0 :: rest.take i ∧ ∀ g ∈ done, g ≠ []
theorem WSt.start (cc W : Nat) (w0 : List Nat) (rest : List (List Nat)) : WSt cc W w0 rest 0 [] 0 [w0] := ⟨by simp, by simp, by simp, by simp, by simp⟩
theorem ends_iff {cc lead j : Nat} {g : List (List Nat)} (h : j < g.length) (hw : ∀ w ∈ g, w ≠ []) : endsW (mkS [cc]) (psOf lead g) j ↔ endsS cc (g.getD j []) = true := by
  unfold endsW
  rw [psOf_snd h]
  have hm : g.getD j [] ∈ g := by rw [List.getD_eq_getElem?_getD, List.getElem?_eq_getElem h]; exact List.getElem_mem h
  rw [← item_last (hw _ hm) cc, beq_iff_eq]
section
variable {cc W lead i : Nat} {w0 w : List Nat} {rest cur : List (List Nat)} {done : List (List (List Nat))}
theorem WSt.lead_le (S : WSt cc W w0 rest i done lead cur) : lead ≤ 1 := by rw [S.2.1]; split <;> lia
theorem WSt.stay (S : WSt cc W w0 rest i done lead cur) (hi : rest[i]? = some w) (hw : ∀ v ∈ cur, v ≠ []) (h : widS (psOf lead cur ++ [(mkS [32], mkS w)]) ≤ (W : Int) ∨ ∀ j, j < (psOf lead cur).length → ¬ endsW (mkS [cc]) (psOf lead cur) j) :
    WSt cc W w0 rest (i + 1) done lead (cur ++ [w]) := by
  obtain ⟨h1, h2, h3, h4, h5⟩ := S
  obtain ⟨hlt, hge⟩ := List.getElem?_eq_some_iff.mp hi
  have hd : rest.drop i = w :: rest.drop (i + 1) := by rw [← hge]; exact (List.drop_eq_getElem_cons hlt)
  have ht : rest.take (i + 1) = rest.take i ++ [w] := by rw [List.take_add_one, hi]; rfl
  refine ⟨by simp, h2, ?_, ?_, h5⟩
  · rw [h3, hd]
    congr 1
    rw [wr]
    by_cases hf : lead + (blankJoin (cur ++ [w])).length ≤ W
    · rw [if_pos hf]
    · rw [if_neg hf]
      have hn : cutI cc (cur ++ [w]) cur.length = none := by
        rcases h with h | h
        · exfalso
          rw [← psOf_snoc h1, wid_psOf (by simp)] at h
          exact hf (by lia)
        · refine cutI_none_of fun j hj => ?_
          have := h j (by rw [psOf_len]; exact hj)
          rw [ends_iff hj hw] at this
          have e : (cur ++ [w]).getD j [] = cur.getD j [] := by rw [List.getD_eq_getElem?_getD, List.getD_eq_getElem?_getD, List.getElem?_append_left hj]
          rw [e]; simpa using this
      rw [hn]
  · rw [← List.append_assoc, h4, ht]; simp
theorem WSt.cut {k : Nat} (S : WSt cc W w0 rest i done lead cur) (hi : rest[i]? = some w) (hw : ∀ v ∈ cur, v ≠ []) (h : (W : Int) < widS (psOf lead cur ++ [(mkS [32], mkS w)])) (hk1 : 1 ≤ k) (hk2 : k ≤ (psOf lead cur).length)
    (he : endsW (mkS [cc]) (psOf lead cur) (k - 1)) (hno : ∀ j, k ≤ j → j < (psOf lead cur).length → ¬ endsW (mkS [cc]) (psOf lead cur) j) :
    WSt cc W w0 rest (i + 1) (done ++ [(cur ++ [w]).take k]) 1 ((cur ++ [w]).drop k) := by
  obtain ⟨h1, h2, h3, h4, h5⟩ := S
  rw [psOf_len] at hk2
  obtain ⟨hlt, hge⟩ := List.getElem?_eq_some_iff.mp hi
  have hd : rest.drop i = w :: rest.drop (i + 1) := by rw [← hge]; exact (List.drop_eq_getElem_cons hlt)
  have ht : rest.take (i + 1) = rest.take i ++ [w] := by rw [List.take_add_one, hi]; rfl
  have eg : ∀ j, j < cur.length → (cur ++ [w]).getD j [] = cur.getD j [] := fun j hj => by rw [List.getD_eq_getElem?_getD, List.getD_eq_getElem?_getD, List.getElem?_append_left hj]
  have hc : cutI cc (cur ++ [w]) cur.length = some k := by
    refine cutI_some_of hk1 hk2 ?_ fun j a b => ?_
    · have hkl := Nat.lt_of_lt_of_le (Nat.sub_lt hk1 Nat.one_pos) hk2
      rw [eg _ hkl]; exact (ends_iff hkl hw).mp he
    · have := hno j a (by rw [psOf_len]; exact b)
      rw [ends_iff b hw] at this
      rw [eg _ b]; simpa using this
  have hf : ¬ lead + (blankJoin (cur ++ [w])).length ≤ W := by
    rw [← psOf_snoc h1, wid_psOf (by simp)] at h
    lia
  refine ⟨fun e => ?_, by simp, ?_, ?_, fun g hg => ?_⟩
  · have := congrArg List.length e
    simp at this; exact Nat.sub_ne_zero_of_lt (Nat.lt_succ_of_le hk2) this
  · rw [h3, hd, List.append_assoc]
    congr 1
    rw [wr, if_neg hf, hc]
    rfl
  · simp only [List.flatten_append, List.flatten_cons, List.flatten_nil, List.append_nil, List.append_assoc]
    rw [List.take_append_drop, ← List.append_assoc, h4, ht]; simp
  · rcases List.mem_append.mp hg with hg | hg
    · exact h5 g hg
    · rw [List.mem_singleton.mp hg]
      intro e
      have := congrArg List.length e
      simp at this; exact absurd this (Nat.ne_of_gt hk1)
theorem WSt.fin (S : WSt cc W w0 rest rest.length done lead cur) : wr cc W 0 [w0] rest = done ++ [cur] := by
  obtain ⟨h1, h2, h3, h4, h5⟩ := S
  rw [h3, List.drop_length]
  rfl
theorem WSt.lens (S : WSt cc W w0 rest i done lead cur) (hi : i ≤ rest.length) : cur.length ≤ i + 1 ∧ done.length ≤ i + 1 ∧ ∀ v, v ∈ cur ∨ v ∈ done.flatten → v ∈ w0 :: rest := by
  obtain ⟨h1, h2, h3, h4, h5⟩ := S
  have hl := congrArg List.length h4
  rw [List.length_append, List.length_cons, List.length_take] at hl
  have key : ∀ d : List (List (List Nat)), (∀ g ∈ d, g ≠ []) → d.length ≤ d.flatten.length := by
    intro d
    induction d with
    | nil => intro _; simp
    | cons g d ih =>
      intro h
      have := ih fun x hx => h x (.tail _ hx)
      have := List.length_pos_iff.mpr (h g (.head _))
      simp only [List.length_cons, List.flatten_cons, List.length_append]; lia
  have hk := key done h5
  refine ⟨by lia, by lia, fun v hv => ?_⟩
  have : v ∈ done.flatten ++ cur := List.mem_append.mpr (hv.elim .inr .inl)
  rw [h4] at this
  rcases List.mem_cons.mp this with h | h
  · exact h ▸ .head _
  · exact .tail _ (List.mem_of_mem_take h)
end
theorem blank_len {b : Nat} : ∀ {g : List (List Nat)}, (∀ w ∈ g, w.length ≤ b) → (blankJoin g).length ≤ (b + 1) * g.length
  | [], _ => by simp [blankJoin]
  | [w], h => by have := h w (.head _); simp [blankJoin]; lia
  | w :: v :: r, h => by
    have ih := blank_len (g := v :: r) fun x hx => h x (.tail _ hx)
    have := h w (.head _)
    show (w ++ 32 :: blankJoin (v :: r)).length ≤ _
    rw [List.length_append, List.length_cons, List.length_cons (a := w), Nat.mul_succ, Nat.add_comm w.length, Nat.add_assoc, Nat.add_comm 1]
    exact Nat.add_le_add ih (Nat.succ_le_succ this)
theorem written_text {done : List (List (List Nat))} {cur : List (List Nat)} {lead : Nat} (hc : cur ≠ []) (hl : lead = (if done = [] then 0 else 1)) :
    Txt.join (Str.ofString "\n") ((rowsOf done).map mkS ++ [catS (psOf lead cur)]) = mkS (splitText (done ++ [cur])) := by
  rw [tjoin, cat_psOf hc, hl]
  have e : (rowsOf done).map mkS ++ [mkS (rowL (if done = [] then 0 else 1) cur)] = (rowsOf (done ++ [cur])).map mkS := by rw [rowsOf_snoc]; simp
  rw [e, join_mkS _ (by rw [rowsOf_snoc]; simp), splitText_rows (by simp)]
theorem notspace {l : List Nat} {c : Nat} (hc : c ∈ l) (h : Unicode.isSpace c = false) : Txt.isspace (mkS l) = false := by
  unfold Txt.isspace
  rw [Bool.and_eq_false_iff]
  right
  rw [← Array.all_toList, mkS_toList]
  rw [List.all_eq_false]
  exact ⟨c, hc, by simp [h]⟩
theorem mem_blank {w : List Nat} {c : Nat} : ∀ {g : List (List Nat)}, w ∈ g → c ∈ w → c ∈ blankJoin g
  | [x], h, hc => by
    rcases List.mem_cons.mp h with rfl | h
    · exact hc
    · cases h
  | x :: y :: r, h, hc => by
    show c ∈ x ++ 32 :: blankJoin (y :: r)
    rcases List.mem_cons.mp h with rfl | h
    · exact List.mem_append_left _ hc
    · exact List.mem_append_right _ (.tail _ (mem_blank h hc))
theorem psOf_fst {lead : Nat} {g : List (List Nat)} {q : Str × Str} (h : q ∈ psOf lead g) : PyData.strOk q.1 = true := by
  cases g with
  | nil => simp [psOf] at h
  | cons a r =>
    simp only [psOf, List.mem_cons, List.mem_map] at h
    rcases h with rfl | ⟨v, hv, rfl⟩
    · exact strOk_mkS fun c hc => by rw [(List.mem_replicate.mp hc).2]; decide
    · exact strOk_mkS fun c hc => by rw [List.mem_singleton.mp hc]; decide
theorem rowsOf_mem {s : List (List (List Nat))} {r : List Nat} (h : r ∈ rowsOf s) : ∃ g ∈ s, r = blankJoin g ∨ r = 32 :: blankJoin g := by
  cases s with
  | nil => simp [rowsOf] at h
  | cons a s =>
    simp only [rowsOf, List.mem_cons, List.mem_map] at h
    rcases h with rfl | ⟨g, hg, rfl⟩
    · exact ⟨a, .head _, .inl rfl⟩
    · exact ⟨g, .tail _ hg, .inr rfl⟩
theorem flat_le {s : List (List (List Nat))} {g : List (List Nat)} (h : g ∈ s) : g.length ≤ s.flatten.length := by
  induction s with
  | nil => cases h
  | cons a s ih =>
    rw [List.flatten_cons, List.length_append]
    rcases List.mem_cons.mp h with rfl | h
    · lia
    · have := ih h; lia
theorem rows_short {s : List (List (List Nat))} {n : Nat} (hw : ∀ v ∈ s.flatten, v.length ≤ 3) (hn : s.flatten.length ≤ n) : ∀ r ∈ rowsOf s, r.length ≤ 4 * n + 1 := fun r hr => by
  obtain ⟨g, hg, e⟩ := rowsOf_mem hr
  have h1 := flat_le hg
  have h2 := blank_len (b := 3) (g := g) fun w hw' => hw w (List.mem_flatten.mpr ⟨g, hg, hw'⟩)
  have h3 : (3 + 1) * g.length ≤ 4 * n := Nat.mul_le_mul_left 4 (by lia)
  rcases e with rfl | rfl
  · lia
  · rw [List.length_cons]; lia
end
section
local macro_rules | `(tactic| walk_at "call ref") => `(tactic| walk_at "M stop")
/-- the parts of a line, told by the ledger of its pairs -/
noncomputable def PartsL (its : Array Value) (tl : List (Addr × Obj)) (ps : List (Str × Str)) : Prop :=
  its.size = ps.length ∧ ∀ j, j < its.size → ∃ ta t1 t2 o n, its[j]? = some (.ref ta) ∧ (ta, o) ∈ tl ∧ o.cls = .type "tuple" ∧ o.data = .seq #[.str (ps.getD j default).1 t1, .str (ps.getD j default).2 t2] n
theorem PartsL.at {h : Heap} {its : Array Value} {tl : List (Addr × Obj)} {ps : List (Str × Str)} (P : PartsL its tl ps) (N : ∀ q ∈ tl, h.get? q.1 = some q.2) : PartsAt h its ps :=
  ⟨P.1, fun j hj => by
    obtain ⟨ta, t1, t2, o, n, e1, e2, e3, e4⟩ := P.2 j hj
    exact ⟨ta, t1, t2, e1, o, N _ e2, e3, n, e4⟩⟩
theorem PartsL.inT {its : Array Value} {tl : List (Addr × Obj)} {ps : List (Str × Str)} (P : PartsL its tl ps) : InT (fun b => b ∈ tl.map (·.1)) its := fun v hv => by
  obtain ⟨j, hj, e⟩ := List.mem_iff_getElem.mp hv
  obtain ⟨ta, t1, t2, o, n, e1, e2, e3, e4⟩ := P.2 j (by simpa using hj)
  have e5 : its[j]? = some v := by rw [← Array.getElem?_toList, List.getElem?_eq_getElem hj, e]
  rw [e5] at e1
  cases e1
  exact ⟨ta, rfl, List.mem_map.mpr ⟨_, e2, rfl⟩⟩
theorem PartsL.of {h : Heap} {its : Array Value} {tl : List (Addr × Obj)} {ps : List (Str × Str)} (P : PartsAt h its ps) (T : InT (fun b => b ∈ tl.map (·.1)) its) (N : ∀ q ∈ tl, h.get? q.1 = some q.2) : PartsL its tl ps :=
  ⟨P.1, fun j hj => by
    obtain ⟨ta, t1, t2, e1, o, ho, hc, n, hd⟩ := P.2 j hj
    have hm : Value.ref ta ∈ its.toList := by
      rw [← Array.getElem?_toList] at e1
      exact List.mem_of_getElem? e1
    obtain ⟨tb, e, hb⟩ := T _ hm
    cases e
    obtain ⟨q, hq, hqe⟩ := List.mem_map.mp hb
    have e2 := N q hq
    rw [hqe, ho] at e2
    have e3 := Option.some.inj e2
    exact ⟨ta, t1, t2, o, n, e1, by rw [e3, ← hqe]; exact hq, hc, hd⟩⟩
/-- where the loop of _law_written stands -/
structure WS where
  tb1 : Option Addr
  tb2 : Option Addr
  its : Array Value
  n : Nat
  hsh : Int
  tk : Tok
  u : Tok
  nd : Nat
  lvs : List Value
  c : Nat
  tl : List (Addr × Obj)
  done : List (List (List Nat))
  lead : Nat
  cur : List (List Nat)
noncomputable abbrev WS.led (z : WS) (od : Obj) (k kd x dx D : Addr) : List (Addr × Obj) := mkLed z.tb1 z.tb2 z.its z.n z.hsh z.tk z.u z.nd z.lvs z.c od k kd x dx D ++ z.tl
noncomputable def WS.ok (cc W : Nat) (w0 : List Nat) (rest : List (List Nat)) (i : Nat) (z : WS) : Prop :=
  WSt cc W w0 rest i z.done z.lead z.cur ∧ PartsL z.its z.tl (psOf z.lead z.cur) ∧ StrsAre z.lvs ((rowsOf z.done).map mkS) ∧ ∀ q ∈ z.tl, q.2.cls = .type "tuple"
theorem rowsOf_len (s : List (List (List Nat))) : (rowsOf s).length = s.length := by cases s <;> simp [rowsOf]
theorem led_app {h₀ h hp : Heap} {L : Addr} {m : Str → Option Value} {tb1 tb2 : Option Addr} {its : Array Value} {n : Nat} {hsh : Int} {tk u : Tok} {nd : Nat} {lvs : List Value} {c : Nat} {od : Obj} {k kd x dx D : Addr} {nw : List (Addr × Obj)}
    (G : ∀ q ∈ mkLed tb1 tb2 its n hsh tk u nd lvs c od k kd x dx D, h.get? q.1 = some q.2) (Z : Free h₀ L k kd x dx D) (F : Fr h₀ L hp m) (nwf : ∀ q ∈ nw, hp.get? q.1 = none ∧ h.get? q.1 = some q.2 ∧ q.2.cls = .type "tuple") : News h₀ L h (mkLed tb1 tb2 its n hsh tk u nd lvs c od k kd x dx D ++ nw) := fun q hq => by
  rcases List.mem_append.mp hq with hq | hq
  · exact led_news G Z q hq
  · exact fresh_of F (nwf q hq).1 (nwf q hq).2.1
theorem first_ps (x : Str) : ([] : List (Str × Str)) ++ [(Str.ofString "", x)] = psOf 0 [x.cps.toList] := by
  have e : Str.ofString "" = mkS [] := by decide
  simp [psOf, mkS_cps, e]
theorem WS.cls {cc W : Nat} {w0 : List Nat} {rest : List (List Nat)} {i : Nat} {z : WS} {od : Obj} {k kd x dx D : Addr} (hod : od.cls = .type "dict") (O : z.ok cc W w0 rest i) : ∀ q ∈ z.led od k kd x dx D, q.2.cls ≠ .type "list_iterator" := by
  intro q hq
  have st : ∀ a b : String, a ≠ b → Value.type a ≠ Value.type b := fun a b h e => h (Value.type.inj e)
  rcases List.mem_append.mp hq with hq | hq
  · simp only [mkLed, List.mem_cons, List.not_mem_nil, or_false] at hq
    rcases hq with rfl | rfl | rfl | rfl | rfl | rfl | rfl
    · intro e; cases e
    · intro e; cases e
    · intro e; cases e
    · exact st "dict" "list_iterator" (by decide)
    · exact st "list" "list_iterator" (by decide)
    · intro e; cases e
    · rw [hod]; exact st "dict" "list_iterator" (by decide)
  · rw [O.2.2.2 q hq]; exact st "tuple" "list_iterator" (by decide)
/-- what the loop holds of its own is kept -/
theorem own_keep {h : Heap} {tb1 tb2 : Option Addr} {its : Array Value} {n : Nat} {hsh : Int} {tk u : Tok} {nd : Nat} {lvs : List Value} {c : Nat} {od : Obj} {k kd x dx D ax : Addr} {vs : Array Value}
    (G : ∀ q ∈ mkLed tb1 tb2 its n hsh tk u nd lvs c od k kd x dx D, h.get? q.1 = some q.2) {p : Addr × Obj} (hp : h.get? p.1 = some p.2) (ho : p.2.cls = .type "list_iterator" ∨ p.1 = ax) (hl : h.IsList ax vs) (hD : ax ≠ D) : p.1 ∉ chg x dx D := by
  have g1 := led_1 G
  have g2 := led_2 G
  have gx := led_3 G
  have gd := led_4 G
  have gl := led_5 G
  have st : ∀ a b : String, a ≠ b → Value.type a ≠ Value.type b := fun a b h e => h (Value.type.inj e)
  rcases ho with hc | ho
  · exact not_chg (get_ne hp g1 (by rw [hc]; intro e; cases e)) (get_ne hp g2 (by rw [hc]; intro e; cases e)) (get_ne hp gx (by rw [hc]; intro e; cases e)) (get_ne hp gd (by rw [hc]; exact st "list_iterator" "dict" (by decide))) (get_ne hp gl (by rw [hc]; exact st "list_iterator" "list" (by decide)))
  · rw [ho]
    obtain ⟨o, hp, hc, _⟩ := hl
    exact not_chg (get_ne hp g1 (by rw [hc]; intro e; cases e)) (get_ne hp g2 (by rw [hc]; intro e; cases e)) (get_ne hp gx (by rw [hc]; intro e; cases e)) (get_ne hp gd (by rw [hc]; exact st "list" "dict" (by decide))) hD
theorem word_at {vs : List Value} {ws : List Str} (h : StrsAre vs ws) : ∀ {i : Nat} {v : Value}, vs[i]? = some v → ∃ x t, v = .str x t ∧ ws[i]? = some x ∧ x ∈ ws := by
  induction h with
  | nil => intro i v e; simp at e
  | cons x t r ih =>
    intro i v e
    cases i with
    | zero => simp at e; exact ⟨x, t, e.symm, rfl, .head _⟩
    | succ i => simp at e; obtain ⟨y, u, e1, e2, e3⟩ := ih e; exact ⟨y, u, e1, by simpa using e2, .tail _ e3⟩
theorem sgn_ascii {cc : Nat} (hcc : cc = 59 ∨ cc = 44) : (mkS [cc]).cps.all (· < 128) = true := by rcases hcc with rfl | rfl <;> decide +kernel
theorem sgn_nospace {cc : Nat} (hcc : cc = 59 ∨ cc = 44) : Txt.isspace (mkS [cc]) = false := by rcases hcc with rfl | rfl <;> decide +kernel
theorem writtenC {w : World} {p : Program} {loose : List Str} {mean : ExcName → Option Value} {mg mb : Str → Option Value} (an : Addr) (vs : List Value) (ws : List Str) (w0 : List Nat) (rest : List (List Nat)) (cc : Nat) (Wd : Int) (t1 t2 : Tok)
    (dp un : Nat) (gd : Option (List Code)) (cn : Str) (cs : Scope) (a : Addr) (ccd : Value) (cl : List (Str × Addr)) (outer : List Env) (A₀ : Around) (base h₀ : Heap) (L : Addr) (m : Str → Option Value) (s : Shared) (Q E : Value → Shared → Prop)
    (hl : s.heap.IsList an vs.toArray) (hi : StrsAre vs ws) (hwr : wlOf ws = w0 :: rest) (hn : ws.length = 5) (hc : ∀ x ∈ ws, chkW x = true) (hcc : cc = 59 ∨ cc = 44) (hW0 : 0 ≤ Wd) (hW1 : Wd ≤ 1000) (hg : AllBare s.gens)
    (N : News h₀ L s.heap [(157, tabObj #[]), (164, tabObj #[])]) (C1 : CodeHd base 161 157) (C2 : CodeHd base 168 164)
    (B : Below A₀ base outer h₀) (F : Fr h₀ L s.heap m) (X : (Mine.hd.heap_1 w.params).In h₀) (T : Top p loose mean mg mb h₀) (hk : cs.kind = .function) (hd : dp + 40 < recursionLimit) (hu : un + 1000 < cLine)
    (hret : ∀ t h' tk' gs' d' ps1 ps2, AllBare gs' → (∀ b o, b ≠ 157 → b ≠ 164 → s.heap.get? b = some o → h'.get? b = some o) → h'.get? 157 = some (tabObj ps1) → h'.get? 164 = some (tabObj ps2) → Q (.str (mkS (splitText (wr cc Wd.toNat 0 [w0] rest))) t) { s with heap := h', toks := tk', gens := gs', drawn := d' }) :
    wpAny (model PySem.Challenge.rw_ik0127_01.row.prog w) (ktrTop dp un gd cn cs L a ccd cl outer) (call (.ref 272) [.ref an, .str (mkS [cc]) t1, .int Wd t2]) Q E s := by
  obtain ⟨x0, t0, vs1, ws1, rfl, rfl⟩ : ∃ x0 t0 vs1 ws1, vs = .str x0 t0 :: vs1 ∧ ws = x0 :: ws1 := by
    cases hi with
    | nil => cases hn
    | cons x t r => exact ⟨x, t, _, _, rfl, rfl⟩
  have hi1 : StrsAre vs1 ws1 := by cases hi with | cons _ _ r => exact r
  have hvl : vs1.length = ws1.length := hi1.len_eq
  have hword : ∀ (i : Nat) (v : Value), vs1[i]? = some v → ∃ x t, v = Value.str x t ∧ ws1[i]? = some x ∧ x ∈ ws1 := fun i v e => word_at hi1 e
  obtain ⟨rfl, rfl⟩ : w0 = x0.cps.toList ∧ rest = wlOf ws1 := by
    have := List.cons.inj hwr
    exact ⟨this.1.symm, this.2.symm⟩
  revert X T; k_fill; intro X T
  refine wpAny_call ?_
  k_dflt (refine' Mine.enterN ?kN ?k1 ?k2 ?k3 ?k5 ?kA ?kF ?kK ?k6 ?k7 ?k8 ?k9 ?kB ?_ ?c2 ?c3 ?c4 ?c5; (case kA | kF => exact rfl); (case kK | kN => assumption); (case k1 | k2 | k3 | k5 => k_asm); (case k6 | k7 => k_is); (case k8 => cb_room); (case k9 => exact BindsTo.of_eq rfl); (case c5 => decide); (case kB => exact locs rfl); (case c2 | c3 | c4 => exact rfl); k_whole; intro _ _ _ _ _ _ _ _ _ _; (try dsimp only); (try k_fold))
  rename_i L' h' g' kg' F' N' B' X' T' kn'
  have hlg : g'.IsList an (List.toArray (.str x0 t0 :: vs1)) := by
    obtain ⟨o, ho, hc, r⟩ := hl
    refine ⟨o, keep_not (c := .type "list") N kg' (by intro q hq; simp only [List.mem_cons, List.not_mem_nil, or_false] at hq; rcases hq with rfl | rfl <;> (intro e; cases e)) _ _ hc ho, hc, r⟩
  repeat walk_at "M w"
  refine Mine.stopHere ?_
  apply Mine.makeC
  ((case B | F | X | T => k_asm); (case hk => with_unfolding_all rfl); (case hd => cb_room); (case hu => cb_units))
  case hret =>
    intro k kd x dx D h2 tk2 n2 c2 hsh tkk uu nd od kp2 gk gkd hod gD gx gdx hfree hde
    have fr : ∀ b o, b ∈ [k, kd, x, dx, D] → h2.get? b = some o → h2.get? b = some o ∧ b ≠ L' ∧ g'.get? b = none := fun b o hb e => fresh_of F' (hfree b hb) e
    have N2 : News g' L' h2 (mkLed none none #[] n2 hsh tkk uu nd [] c2 od k kd x dx D) :=
      Mine.News.more (kp2 _ _ (N' _ (.head _)).1 |> fun e => ⟨e, (N' _ (.head _)).2⟩) (Mine.News.more (kp2 _ _ (N' _ (.tail _ (.head _))).1 |> fun e => ⟨e, (N' _ (.tail _ (.head _))).2⟩)
        (Mine.News.more (fr x _ (by simp) gx) (Mine.News.more (fr dx _ (by simp) gdx) (Mine.News.more (fr D _ (by simp) gD) (Mine.News.more (fr k _ (by simp) gk) (Mine.News.more (fr kd _ (by simp) gkd) News.nil))))))
    obtain ⟨e1, e2, e3, rfl⟩ := id hod
    have P := Ap.of (fun q hq => (N2 q hq).1) rfl hde
    have Z := News.free N2
    have F2 := F'.keeps kp2
    clear F' N' hfree fr
    repeat walk_at "M w"
    refine Mine.stopHere ?_
    rename Fr _ _ _ _ => F3
    rename News _ _ _ _ => N3
    rw [show (x0 :: ws1).getD (Int.toNat 0) Str.empty = x0 from rfl]
    have hx0 := chk_is (hc x0 (.head _))
    have hsg1 : (mkS [cc]).length = 1 := by rw [mkS_len]; rfl
    have hsga : (mkS [cc]).cps.all (· < 128) = true := sgn_ascii hcc
    have hsgs : Txt.isspace (mkS [cc]) = false := sgn_nospace hcc
    apply Mine.appendM (TT := fun _ => False) (k := k) (kd := kd) (x := x) (dx := dx) (D := D) (ps := []) (ls := [])
    ((case B | F | X | T => k_asm); (case hk => with_unfolding_all rfl); (case hd => cb_room); (case hu => cb_units))
    case M => exact ⟨none, none, #[], n2, hsh, tkk, uu, nd, [], c2, fun q hq => (N3 q hq).1, ⟨rfl, fun j hj => by simp at hj⟩, InT.nil, .nil⟩
    case P => exact P
    case Z => exact Z
    case hod => exact hod
    case C1 => exact C1
    case C2 => exact C2
    case hg => exact hg
    case hlen => simp
    case hsz => intro q hq; rw [List.nil_append, List.mem_singleton] at hq; rw [hq]; exact ⟨by show (Str.ofString "").length ≤ 100; decide, by show x0.length ≤ 100; lia⟩
    case hne => intro q hq; rw [List.nil_append, List.mem_singleton] at hq; rw [hq]; show 0 < x0.length; lia
    case hls => simp
    case hsg => exact hsg1
    case hsga => exact hsga
    case hsgs => exact hsgs
    case hcut => intro i nw h4 tk4 gs4 d4 a1 a2 a3; simp at a3; lia
    case hstay =>
      intro nw h4 tk4 gs4 d4 _ hg4 kp4 nwf M4
      rw [first_ps] at M4
      have F4 := Fr.mk F3 Z kp4
      obtain ⟨tb1, tb2, its, n, hsh, tkk, uu, nd, lvs, c, G4, P4, T4, L4⟩ := M4
      have N4 := led_app G4 Z F3 nwf
      have PL4 := PartsL.of (tl := nw) P4 (T4.mono fun b hb => hb.elim (fun h => h.elim) id) (fun q hq => (nwf q hq).2.1)
      have TL4 : ∀ q ∈ nw, q.2.cls = .type "tuple" := fun q hq => (nwf q hq).2.2
      clear N3 F3 G4 P4 T4
      walk_at "M w"
      apply Mine.forG (h₀ := g') (fun z : WS => z.led (vfD e1 e2 e3 Wd (mkS [cc]) D x) k kd x dx D) [Str.ofString "word"] (fun i z => z.ok cc Wd.toNat x0.cps.toList (wlOf ws1) i)
      case hx => with_unfolding_all rfl
      case hp => with_unfolding_all rfl
      case hh => with_unfolding_all rfl
      case hs => intro _; with_unfolding_all rfl
      case hE => passes_own
      case hxt => decide
      case hcls => exact fun i z O => WS.cls rfl O
      dsimp only [mkLed, List.cons_append, List.nil_append] at N4
      have hD4 : D < h4.objs.size := Heap.lt_size (N4 (D, PySem.W.listOf lvs.toArray c) (by k_mem)).1
      repeat walk_at "M w"
      rename Fr _ _ _ _ => F5
      rename News _ _ _ _ => N5
      rw [pick_tail (.str x0 t0 :: vs1) 1 (by decide)] at N5
      have haxD : h4.objs.size + 1 ≠ D := Nat.ne_of_gt (Nat.lt_succ_of_lt hD4)
      refine ⟨h4.objs.size + 1, vs1, ⟨tb1, tb2, its, n, hsh, tkk, uu, nd, lvs, c, nw, [], 0, [x0.cps.toList]⟩, _, rfl, ⟨_, (N5 _ (.head _)).1, rfl, _, rfl⟩, (N5 _ (.head _)).2.1, hg4, F5, fun q hq => N5 q (.tail _ hq), ⟨WSt.start .., PL4, L4, TL4⟩, ?turn, ?done⟩
      case done =>
        intro z u h tk9 gs d O hgs F9 N9
        obtain ⟨tb1, tb2, its, n, hsh, tkk, uu, nd, lvs, c, tl, dn, lead, cur⟩ := z
        obtain ⟨S, PL, SL, TL⟩ := O
        dsimp only at S PL SL TL
        have hln : (wlOf ws1).length = 4 := by have h2 : ws1.length + 1 = 5 := hn; unfold wlOf; rw [List.length_map]; lia
        have hv4 : vs1.length = 4 := by have h2 : ws1.length + 1 = 5 := hn; have h3 := hvl; lia
        rw [hv4, ← hln] at S
        obtain ⟨hl1, hl2, hl3⟩ := S.lens (Nat.le_refl _)
        have hmem : ∀ v, v ∈ cur ∨ v ∈ dn.flatten → v ≠ [] ∧ v.length ≤ 3 ∧ (∀ c ∈ v, c < 200) ∧ ∀ c ∈ v, Unicode.isSpace c = false := fun v hv' => by
          have hm : v ∈ wlOf (x0 :: ws1) := hl3 v hv'
          unfold wlOf at hm
          obtain ⟨y, hy, rfl⟩ := List.mem_map.mp hm
          have h1 := chk_is (hc y hy)
          exact ⟨h1.1, h1.2.1, fun c hc' => (h1.2.2.1 c hc').2, chk_sp (hc y hy)⟩
        dsimp only [loopM, kstB] at F9
        have N9' : News g' L' h (mkLed tb1 tb2 its n hsh tkk uu nd lvs c (vfD e1 e2 e3 Wd (mkS [cc]) D x) k kd x dx D ++ tl) := fun q hq => N9 q hq
        dsimp only [mkLed, List.cons_append, List.nil_append] at N9'
        clear F5 N5 N9
        dsimp only
        repeat walk_at "M w"
        refine Mine.stopHere ?_
        rename Fr _ _ _ _ => F10
        rename News _ _ _ _ => N10
        have N10' : News g' L' _ (mkLed tb1 tb2 its n hsh tkk uu nd lvs c (vfD e1 e2 e3 Wd (mkS [cc]) D x) k kd x dx D ++ tl) := fun q hq => N10 q hq
        have G10 : ∀ q ∈ mkLed tb1 tb2 its n hsh tkk uu nd lvs c _ k kd x dx D, _ := fun q hq => (N10' q (List.mem_append_left _ hq)).1
        have hfl := congrArg List.length S.2.2.2.1
        rw [List.length_append, List.length_cons, List.length_take, hln] at hfl
        have hcl5 : cur.length ≤ 5 := by lia
        have hnz : psOf lead cur ≠ [] := fun e => S.1 (List.length_eq_zero_iff.mp (by rw [← psOf_len lead, e]; rfl))
        obtain ⟨ps', ⟨f1, f2⟩, hpe⟩ : ∃ ps' q, psOf lead cur = ps' ++ [q] := ⟨_, _, (List.dropLast_concat_getLast hnz).symm⟩
        have hpl : ps'.length + 1 = cur.length := by rw [← psOf_len lead cur, hpe]; simp
        have hpz : ∀ q ∈ ps' ++ [(f1, f2)], (q.1.length ≤ 100 ∧ q.2.length ≤ 100) ∧ 0 < q.2.length ∧ PyData.strOk q.1 = true ∧ PyData.strOk q.2 = true := fun q hq => by
          rw [← hpe] at hq
          obtain ⟨h1, v, hv', e⟩ := psOf_mem S.lead_le hq
          obtain ⟨m1, m2, m3, m4⟩ := hmem v (.inl hv')
          have := List.length_pos_iff.mpr m1
          refine ⟨by rw [e, mkS_len]; lia, by rw [e, mkS_len]; lia, psOf_fst hq, ?_⟩
          rw [e]; exact strOk_mkS fun c hc' => Nat.lt_trans (m3 c hc') (by decide)
        have hlast := hpz (f1, f2) (by simp)
        have hbl := blank_len (b := 3) (g := cur) fun v hv' => (hmem v (.inl hv')).2.1
        have hcat : catS (ps' ++ [(f1, f2)]) = mkS (rowL lead cur) := by rw [← hpe]; exact cat_psOf S.1
        apply Mine.strFM (TT := fun b => b ∈ tl.map (·.1)) (od := vfD e1 e2 e3 Wd (mkS [cc]) D x) (k := k) (kd := kd) (x := x) (dx := dx) (D := D) (ps := ps') (ls := (rowsOf dn).map mkS) (f1 := f1) (f2 := f2) (W := Wd) (sg := mkS [cc])
        ((case B | F | X | T => k_asm); (case hk => with_unfolding_all rfl); (case hd => cb_room); (case hu => cb_units))
        case M => rw [← hpe]; exact ⟨_, _, _, _, _, _, _, _, _, _, G10, PL.at fun q hq => (N10' q (List.mem_append_right _ hq)).1, PL.inT, SL⟩
        case P => exact P
        case Z => exact Z
        case hod => exact hod
        case C1 => exact C1
        case C2 => exact C2
        case hg => exact hgs
        case hlen => lia
        case hsz => exact fun q hq => (hpz q hq).1
        case ho1 => exact hlast.2.2.1
        case ho2 => exact hlast.2.2.2
        case hne => exact hlast.2.1
        case hls => rw [List.length_map, rowsOf_len]; lia
        case hll =>
          intro y hy
          obtain ⟨r, hr, rfl⟩ := List.mem_map.mp hy
          have := rows_short (s := dn) (n := 5) (fun v hv' => (hmem v (.inr hv')).2.1) (by lia) r hr
          rw [mkS_len]; lia
        case hsep => decide
        case hcl => rw [hcat, mkS_len]; unfold rowL; rw [List.length_append, List.length_replicate]; have := S.lead_le; lia
        case hsp =>
          rw [hcat]
          obtain ⟨v, r, hvr⟩ : ∃ v r, cur = v :: r := by
            cases cur with
            | nil => exact absurd rfl S.1
            | cons v r => exact ⟨v, r, rfl⟩
          have hvm : v ∈ cur := by rw [hvr]; exact .head _
          obtain ⟨m1, m2, m3, m4⟩ := hmem v (.inl hvm)
          obtain ⟨ch, rr, hch⟩ : ∃ ch rr, v = ch :: rr := by
            cases v with
            | nil => exact absurd rfl m1
            | cons ch rr => exact ⟨ch, rr, rfl⟩
          have hcm : ch ∈ v := by rw [hch]; exact .head _
          exact notspace (c := ch) (List.mem_append_right _ (mem_blank hvm hcm)) (m4 ch hcm)
        case hret =>
          intro t11 h11 tk11 gs11 d11 hg11 kp11 M11
          rw [← hpe, written_text S.1 S.2.1, ← S.fin]
          obtain ⟨ub1, ub2, its', n', hsh', tkk', uu', nd', lvs', c', G11, _⟩ := M11
          refine hret t11 h11 _ gs11 d11 _ _ hg11 (fun b o hb1 hb2 e => ?_) (led_1 G11) (led_2 G11)
          have q1 := kg' b o e (by simp only [List.map_cons, List.map_nil, List.mem_cons, List.not_mem_nil, or_false]; rintro (h | h); exact hb1 h; exact hb2 h)
          have nz : ∀ y, y ∈ [157, 164, x, dx, D, k, kd] → b ≠ y := fun y hy q => by rw [q, (Z y hy).2] at q1; cases q1
          exact kp11 b o (not_chg hb1 hb2 (nz x (by simp)) (nz dx (by simp)) (nz D (by simp))) (F10.keep b o q1)
      case turn =>
        intro i z v u h tk9 gs d own hv O hgs hown hax F6 N6
        obtain ⟨tb1, tb2, its, n, hsh, tkk, uu, nd, lvs, c, tl, dn, lead, cur⟩ := z
        obtain ⟨S, PL, SL, TL⟩ := O
        dsimp only at S PL SL TL
        obtain ⟨x1, tx, rfl, hx1, hxm⟩ := hword _ _ hv
        have hr1 : (wlOf ws1)[i]? = some x1.cps.toList := by unfold wlOf; rw [List.getElem?_map, hx1]; rfl
        have hi4 : i < 4 := by
          have h1 := (List.getElem?_eq_some_iff.mp hx1).1
          have h2 : ws1.length + 1 = 5 := hn
          lia
        have hck := chk_is (hc x1 (.tail _ hxm))
        have e32 : Str.ofString " " = mkS [32] := by decide
        have hx1m : x1 = mkS x1.cps.toList := (mkS_cps x1).symm
        have hln : (wlOf ws1).length = 4 := by have h2 : ws1.length + 1 = 5 := hn; unfold wlOf; rw [List.length_map]; lia
        obtain ⟨hl1, hl2, hl3⟩ := S.lens (by lia)
        have hwd : ∀ v ∈ cur, v ≠ [] ∧ v.length ≤ 3 := fun v hv' => by
          have hm : v ∈ wlOf (x0 :: ws1) := hl3 v (.inl hv')
          unfold wlOf at hm
          obtain ⟨y, hy, rfl⟩ := List.mem_map.mp hm
          exact ⟨(chk_is (hc y hy)).1, (chk_is (hc y hy)).2.1⟩
        have hpz : ∀ q ∈ psOf lead cur ++ [(Str.ofString " ", x1)], (q.1.length ≤ 100 ∧ q.2.length ≤ 100) ∧ 0 < q.2.length := fun q hq => by
          rcases List.mem_append.mp hq with hq | hq
          · obtain ⟨h1, v, hv', e⟩ := psOf_mem S.lead_le hq
            have := hwd v hv'
            have := List.length_pos_iff.mpr (hwd v hv').1
            rw [e, mkS_len]; lia
          · rw [List.mem_singleton.mp hq]
            exact ⟨⟨by show (Str.ofString " ").length ≤ 100; decide, by show x1.length ≤ 100; lia⟩, by show 0 < x1.length; lia⟩
        dsimp only [loopM, kstB] at F6
        have N6' : News g' L' h (mkLed tb1 tb2 its n hsh tkk uu nd lvs c (vfD e1 e2 e3 Wd (mkS [cc]) D x) k kd x dx D ++ (tl ++ own)) := fun q hq => N6 q (by
          rcases List.mem_append.mp hq with hq | hq
          · exact List.mem_append_right _ (List.mem_append_left _ hq)
          · rcases List.mem_append.mp hq with hq | hq
            · exact List.mem_append_right _ (List.mem_append_right _ hq)
            · exact List.mem_append_left _ hq)
        dsimp only [mkLed, List.cons_append, List.nil_append] at N6'
        clear F5 N5 F4 N4 N6
        repeat walk_at "M w"
        refine Mine.stopHere ?_
        rename Fr _ _ _ _ => F7
        rename News _ _ _ _ => N7
        have N7' : News g' L' _ (mkLed tb1 tb2 its n hsh tkk uu nd lvs c (vfD e1 e2 e3 Wd (mkS [cc]) D x) k kd x dx D ++ (tl ++ own)) := fun q hq => N7 q hq
        have G7 : ∀ q ∈ mkLed tb1 tb2 its n hsh tkk uu nd lvs c _ k kd x dx D, _ := fun q hq => (N7' q (List.mem_append_left _ hq)).1
        have tl7 : ∀ q ∈ tl, _ := fun q hq => (N7' q (List.mem_append_right _ (List.mem_append_left _ hq)))
        have own7 : ∀ q ∈ own, _ := fun q hq => (N7' q (List.mem_append_right _ (List.mem_append_right _ hq)))
        apply Mine.appendM (TT := fun b => b ∈ tl.map (·.1)) (k := k) (kd := kd) (x := x) (dx := dx) (D := D) (ps := psOf lead cur) (ls := (rowsOf dn).map mkS)
        ((case B | F | X | T => k_asm); (case hk => with_unfolding_all rfl); (case hd => cb_room); (case hu => cb_units))
        case M => exact ⟨_, _, _, _, _, _, _, _, _, _, G7, PL.at fun q hq => (tl7 q hq).1, PL.inT, SL⟩
        case P => exact P
        case Z => exact Z
        case hod => exact hod
        case C1 => exact C1
        case C2 => exact C2
        case hg => exact hgs
        case hlen => rw [psOf_len]; lia
        case hsz => exact fun q hq => (hpz q hq).1
        case hne => exact fun q hq => (hpz q hq).2
        case hls => rw [List.length_map, rowsOf_len]; lia
        case hsg => exact hsg1
        case hsga => exact hsga
        case hsgs => exact hsgs
        case hstay =>
          intro nw h8 tk8 gs8 d8 hst hg8 kp8 nwf M8
          rw [e32, hx1m] at hst M8
          have hWn : Wd = ((Wd.toNat : Nat) : Int) := by lia
          rw [hWn] at hst
          have S' := S.stay hr1 (fun v hv' => (hwd v hv').1) hst
          rw [← psOf_snoc S.1] at M8
          have F8 := Fr.mk F7 Z kp8
          obtain ⟨tb1, tb2, its, n, hsh, tkk, uu, nd, lvs, c, G8, P8, T8, L8⟩ := M8
          have hnt : ∀ q ∈ nw ++ tl, h8.get? q.1 = some q.2 := fun q hq => by
            rcases List.mem_append.mp hq with hq | hq
            · exact (nwf q hq).2.1
            · exact kp8 _ _ (tup_chg G7 (TL q hq) (tl7 q hq).1) (tl7 q hq).1
          have PL8 := PartsL.of (tl := nw ++ tl) P8 (T8.mono fun b hb => by rw [List.map_append]; exact List.mem_append.mpr (hb.elim .inr .inl)) hnt
          walk_at "M w"
          refine ⟨h8, _, gs8, d8, _, ⟨tb1, tb2, its, n, hsh, tkk, uu, nd, lvs, c, nw ++ tl, dn, lead, cur ++ [x1.cps.toList]⟩, rfl, hg8, F8, fun q hq => ?_, ?off, ⟨S', PL8, L8, fun q hq => ?_⟩⟩
          case off => walk_at "M off"
          · rcases List.mem_append.mp hq with hq | hq
            · exact ⟨kp8 _ _ (own_keep G7 (own7 q hq).1 (hown q hq) hax haxD) (own7 q hq).1, (own7 q hq).2⟩
            · rcases List.mem_append.mp (show q ∈ mkLed tb1 tb2 its n hsh tkk uu nd lvs c (vfD e1 e2 e3 Wd (mkS [cc]) D x) k kd x dx D ++ (nw ++ tl) from hq) with hq | hq
              · exact led_news G8 Z q hq
              · rcases List.mem_append.mp hq with hq | hq
                · exact fresh_of F7 (nwf q hq).1 (nwf q hq).2.1
                · exact ⟨hnt q (List.mem_append_right _ hq), (tl7 q hq).2⟩
          · rcases List.mem_append.mp hq with hq | hq
            · exact (nwf q hq).2.2
            · exact TL q hq
        case hcut =>
          intro j nw h8 tk8 gs8 d8 hWS hj1 hj2 hjE hjN hg8 kp8 nwf M8
          rw [e32, hx1m] at hWS M8
          have hWn : Wd = ((Wd.toNat : Nat) : Int) := by lia
          rw [hWn] at hWS
          have S' := S.cut hr1 (fun v hv' => (hwd v hv').1) hWS hj1 hj2 hjE hjN
          rw [← psOf_snoc S.1, psOf_drop hj1, psOf_take hj1, cat_psOf (by intro e; have := congrArg List.length e; simp at this; lia), S.2.1] at M8
          rw [show (rowsOf dn).map mkS ++ [mkS (rowL (if dn = [] then 0 else 1) ((cur ++ [x1.cps.toList]).take j))] = (rowsOf (dn ++ [(cur ++ [x1.cps.toList]).take j])).map mkS by rw [rowsOf_snoc]; simp] at M8
          have F8 := Fr.mk F7 Z kp8
          obtain ⟨tb1, tb2, its, n, hsh, tkk, uu, nd, lvs, c, G8, P8, T8, L8⟩ := M8
          have hnt : ∀ q ∈ nw ++ tl, h8.get? q.1 = some q.2 := fun q hq => by
            rcases List.mem_append.mp hq with hq | hq
            · exact (nwf q hq).2.1
            · exact kp8 _ _ (tup_chg G7 (TL q hq) (tl7 q hq).1) (tl7 q hq).1
          have PL8 := PartsL.of (tl := nw ++ tl) P8 (T8.mono fun b hb => by rw [List.map_append]; exact List.mem_append.mpr (hb.elim .inr .inl)) hnt
          walk_at "M w"
          refine ⟨h8, _, gs8, d8, _, ⟨tb1, tb2, its, n, hsh, tkk, uu, nd, lvs, c, nw ++ tl, dn ++ [(cur ++ [x1.cps.toList]).take j], 1, (cur ++ [x1.cps.toList]).drop j⟩, rfl, hg8, F8, fun q hq => ?_, ?off, ⟨S', PL8, L8, fun q hq => ?_⟩⟩
          case off => walk_at "M off"
          · rcases List.mem_append.mp hq with hq | hq
            · exact ⟨kp8 _ _ (own_keep G7 (own7 q hq).1 (hown q hq) hax haxD) (own7 q hq).1, (own7 q hq).2⟩
            · rcases List.mem_append.mp (show q ∈ mkLed tb1 tb2 its n hsh tkk uu nd lvs c (vfD e1 e2 e3 Wd (mkS [cc]) D x) k kd x dx D ++ (nw ++ tl) from hq) with hq | hq
              · exact led_news G8 Z q hq
              · rcases List.mem_append.mp hq with hq | hq
                · exact fresh_of F7 (nwf q hq).1 (nwf q hq).2.1
                · exact ⟨hnt q (List.mem_append_right _ hq), (tl7 q hq).2⟩
          · rcases List.mem_append.mp hq with hq | hq
            · exact (nwf q hq).2.2
            · exact TL q hq
end
section
theorem fold_reps (a : List Nat) : ∀ (k : Nat) (acc : Array Nat), ((List.replicate k a.toArray).foldl (· ++ ·) acc).toList = acc.toList ++ (List.replicate k a).flatten
  | 0, acc => by simp
  | k + 1, acc => by
    rw [List.replicate_succ, List.foldl_cons, fold_reps a k, List.replicate_succ, List.flatten_cons]
    simp
theorem flat_reps : ∀ k : Nat, flat (List.replicate k (.cls 10)) = (List.replicate k [91, 33, 10, 93]).flatten
  | 0 => rfl
  | k + 1 => by
    rw [List.replicate_succ, List.replicate_succ, List.flatten_cons, ← flat_reps k]
    rfl
theorem mul_cls (n : Int) (h : 1 ≤ n) : Txt.mul (Str.ofString "[!\n]") n = mkS (flat (List.replicate n.toNat (.cls 10))) := by
  have e : Str.ofString "[!\n]" = mkS [91, 33, 10, 93] := by decide
  rw [flat_reps]
  unfold Txt.mul
  rw [if_neg (by lia)]
  by_cases h1 : n = 1
  · subst h1
    rw [if_pos (by decide), e]
    rfl
  · rw [if_neg (by rw [e]; simp [mkS_len, h1])]
    rw [e]
    apply Str.ext'
    apply Array.toList_inj.mp
    show ((List.replicate n.toNat ([91, 33, 10, 93] : List Nat).toArray).foldl (· ++ ·) #[]).toList = _
    rw [fold_reps]
    simp [mkS]
theorem pat1 (n : Int) (h : 1 ≤ n) : Str.ofString "*" ++ Txt.mul (Str.ofString "[!\n]") n ++ Str.ofString "*" = mkS (flat (.star :: (List.replicate n.toNat (.cls 10) ++ [.star]))) := by
  rw [mul_cls n h, show Str.ofString "*" = mkS [42] by decide, mkS_app, mkS_app]
  congr 1
  simp [flat, It.txt]
theorem pat2 {sg : Str} (h : sg = mkS [59] ∨ sg = mkS [44]) : ∃ c, sg = mkS [c] ∧ (c = 10 ∨ c = 59 ∨ c = 44) ∧ Str.ofString "*[!" ++ sg ++ Str.ofString "]\n*" = mkS (flat (.star :: ([.cls c, .nl] ++ [.star]))) := by
  rcases h with rfl | rfl
  · exact ⟨59, rfl, .inr (.inl rfl), by decide⟩
  · exact ⟨44, rfl, .inr (.inr rfl), by decide⟩
theorem mul_len (n : Int) (h : 1 ≤ n) (h2 : n ≤ 30) : (Txt.mul (Str.ofString "[!\n]") n).length ≤ 200 := by
  rw [mul_cls n h, mkS_len]
  have := flat_len (List.replicate n.toNat (.cls 10))
  rw [List.length_replicate] at this
  exact Nat.le_trans this (Nat.le_trans (Nat.mul_le_mul_left 4 (Int.toNat_le.mpr h2)) (by decide))
/-- the group of a translated pattern, sign by sign -/
noncomputable def grpOf : It → List (Nat × Bool)
  | .cls c => [(c, true)]
  | .nl => [(10, false)]
  | .star => []
theorem enc_out : ∀ mid : List It, (∀ i ∈ mid, i ≠ .star) → (mid.map It.out).flatMap (·.cps.toList) = encS (mid.flatMap grpOf)
  | [], _ => rfl
  | .star :: r, h => absurd rfl (h _ (.head _))
  | .cls c :: r, h => by
    have ih := enc_out r fun i hi => h i (.tail _ hi)
    simp only [List.map_cons, List.flatMap_cons, It.out, grpOf, List.cons_append, List.nil_append, encS]
    rw [ih]; simp [mkS]
  | .nl :: r, h => by
    have ih := enc_out r fun i hi => h i (.tail _ hi)
    simp only [List.map_cons, List.flatMap_cons, It.out, grpOf, List.cons_append, List.nil_append, encS]
    rw [ih]; simp [mkS]
noncomputable abbrev headP : List Nat := [40, 63, 115, 58, 40, 63, 62, 46, 42, 63]
noncomputable abbrev tailP : List Nat := [41, 46, 42, 41, 92, 90]
theorem joined_outer (xs : List Str) : Txt.slice (joined xs) none (some 10) ++ Txt.slice (joined xs) (some (-6)) none = Str.ofString "(?s:(?>.*?).*)\\Z" := by
  show Txt.slice (mkS (headP ++ (xs.flatMap (·.cps.toList) ++ tailP))) none (some 10) ++ Txt.slice (mkS (headP ++ (xs.flatMap (·.cps.toList) ++ tailP))) (some (-6)) none = _
  generalize xs.flatMap (·.cps.toList) = b
  have hl : (headP ++ (b ++ tailP)).length = b.length + 16 := by simp
  have h1 : Txt.slice (mkS (headP ++ (b ++ tailP))) none (some 10) = mkS ((headP ++ (b ++ tailP)).take 10) := slice_b (b := 10) (by lia)
  have h2 : Txt.slice (mkS (headP ++ (b ++ tailP))) (some (-6)) none = mkS ((headP ++ (b ++ tailP)).drop ((headP ++ (b ++ tailP)).length - 6)) := slice_neg (k := 6) (by lia) (by decide)
  have e2 : (headP ++ (b ++ tailP)).drop ((headP ++ (b ++ tailP)).length - 6) = tailP := by
    have hl2 : (headP ++ (b ++ tailP)).length - 6 = (headP ++ b).length := by rw [hl, List.length_append]; show _ = 10 + b.length; lia
    rw [hl2, ← List.append_assoc, List.drop_left]
  rw [h1, h2, e2, show (headP ++ (b ++ tailP)).take 10 = headP from rfl, mkS_app]
  decide
theorem joined_inner (mid : List It) (h : ∀ i ∈ mid, i ≠ .star) : Txt.slice (joined (mid.map It.out)) (some 10) (some (-6)) = mkS (encS (mid.flatMap grpOf)) := by
  rw [← enc_out mid h]
  show Txt.slice (mkS (headP ++ ((mid.map It.out).flatMap (·.cps.toList) ++ tailP))) (some 10) (some (-6)) = _
  generalize (mid.map It.out).flatMap (·.cps.toList) = b
  have hl : (headP ++ (b ++ tailP)).length = b.length + 16 := by simp
  have h1 : Txt.slice (mkS (headP ++ (b ++ tailP))) (some 10) (some (-6)) = mkS (((headP ++ (b ++ tailP)).drop 10).take ((headP ++ (b ++ tailP)).length - 6 - 10)) := slice_a_neg (a := 10) (k := 6) (by lia) (by decide)
  rw [h1]
  congr 1
  rw [hl, show b.length + 16 - 6 - 10 = b.length by lia]
  show (b ++ tailP).take b.length = b
  rw [List.take_left]
theorem joined_len (mid : List It) (h : mid.length ≤ 90) : (joined (mid.map It.out)).length ≤ 1000 := by
  unfold joined
  rw [mkS_len]
  have : ((mid.map It.out).flatMap (·.cps.toList)).length ≤ 4 * mid.length := by
    clear h
    induction mid with
    | nil => exact Nat.le_refl _
    | cons x r ih =>
      rw [List.map_cons, List.flatMap_cons, List.length_append, List.length_cons]
      have : x.out.cps.toList.length ≤ 4 := by cases x <;> simp [It.out, mkS]
      exact Nat.le_trans (Nat.add_le_add this ih) (Nat.le_of_eq (by rw [Nat.mul_succ, Nat.add_comm]))
  simp only [List.length_append, List.length_cons, List.length_nil]
  exact Nat.le_trans (Nat.add_le_add_left (Nat.add_le_add_right (Nat.le_trans this (Nat.mul_le_mul_left 4 (by assumption))) _) _) (by decide)
/-- a call has come back that kept all but one object of the ledger -/
theorem after_callU {h₀ h h' : Heap} {L P : Addr} {m : Str → Option Value} {news : List (Addr × Obj)} {g : Obj → List (Addr × Obj)} {o o' : Obj} (F : Fr h₀ L h m) (N : News h₀ L h news) (U : UpdF P o news g)
    (hx : ∀ b ob, b ≠ P → h.get? b = some ob → h'.get? b = some ob) (hP : h'.get? P = some o') : Fr h₀ L h' m ∧ News h₀ L h' (g o') := by
  obtain ⟨pre, post, rfl, hg, a, b⟩ := U.split
  have n := N _ (List.mem_append.mpr (.inr (.head _)))
  refine ⟨⟨F.ns.extBut (fun b ob hb e => hx b ob hb e) (fun e => n.2.1 e.symm), fun b ob e => hx b ob (fun q => ?_) (F.keep b ob e), F.above⟩, fun q hq => ?_⟩
  · have := n.2.2; simp only at this; rw [q, this] at e; cases e
  · rw [hg] at hq
    rcases List.mem_append.mp hq with hq | hq
    · exact ⟨hx _ _ (a q hq) (N q (List.mem_append_left _ hq)).1, (N q (List.mem_append_left _ hq)).2⟩
    · rcases List.mem_cons.mp hq with rfl | hq
      · exact ⟨hP, n.2⟩
      · exact ⟨hx _ _ (b q hq) (N q (List.mem_append_right _ (.tail _ hq))).1, (N q (List.mem_append_right _ (.tail _ hq))).2⟩
end
section
/-- how often a text is taken -/
noncomputable def cntS (cc W : Nat) (f : Str) : Nat := cntL cc W f.cps.toList
section
variable {ws : List Str} {cc W : Nat}
theorem wl_ne (hn : ws.length = 5) : wlOf ws ≠ [] := by
  intro e
  have := congrArg List.length e
  simp [wlOf, hn] at this
theorem wl_chk (hc : ∀ x ∈ ws, chkW x = true) : ∀ w ∈ wlOf ws, 10 ∉ w ∧ w ≠ [] := by
  intro w hw
  obtain ⟨x, hx, rfl⟩ := List.mem_map.mp hw
  obtain ⟨h1, _, h3, _⟩ := chk_is (hc x hx)
  exact ⟨fun h => (h3 10 h).1 rfl, h1⟩
theorem folds_are (hn : ws.length = 5) : foldsOf ws = (foldL (wlOf ws)).map mkS := by
  rw [← foldsOf_mkS (wl_ne hn), wl_mk]
theorem folds_len (hn : ws.length = 5) (hc : ∀ x ∈ ws, chkW x = true) : (foldsOf ws).length ≤ 16 ∧ ∀ f ∈ foldsOf ws, f.length ≤ 23 := by
  have hb := fold_bounds (ws.drop 1) (ws.take 1) 1 3 (fun y hy => (chk_is (hc y (List.mem_of_mem_drop hy))).2.2.2.2) (by rw [List.length_take]; exact Nat.min_le_left _ _) (fun f hf => (chk_is (hc f (List.mem_of_mem_take hf))).2.2.2.2)
  rw [List.length_drop, hn] at hb
  exact ⟨Nat.le_trans hb.1 (by decide), fun f hf => by have := hb.2 f hf; omega⟩
theorem folds_mem (hn : ws.length = 5) {f : Str} (hf : f ∈ foldsOf ws) : f.cps.toList ∈ foldL (wlOf ws) := by
  rw [folds_are hn] at hf
  obtain ⟨g, hg, rfl⟩ := List.mem_map.mp hf
  rw [mkS_toList]; exact hg
theorem mem_flat_lt {B : Nat} : ∀ {g : List (List Nat)}, (∀ w ∈ g, ∀ c ∈ w, c < B) → 32 < B → ∀ c ∈ blankJoin g, c < B
  | [], _, _, c, h => by cases h
  | [w], h, _, c, hc => h w (.head _) c hc
  | w :: x :: r, h, hB, c, hc => by
    rcases List.mem_append.mp hc with hc | hc
    · exact h w (.head _) c hc
    · rcases List.mem_cons.mp hc with rfl | hc
      · exact hB
      · exact mem_flat_lt (fun y hy => h y (.tail _ hy)) hB c hc
theorem mem_split_lt {B : Nat} : ∀ {s : List (List (List Nat))}, (∀ g ∈ s, ∀ w ∈ g, ∀ c ∈ w, c < B) → 32 < B → ∀ c ∈ tailText s, c < B
  | [], _, _, c, h => by cases h
  | g :: r, h, hB, c, hc => by
    rcases List.mem_cons.mp hc with rfl | hc
    · omega
    rcases List.mem_cons.mp hc with rfl | hc
    · exact hB
    rcases List.mem_append.mp hc with hc | hc
    · exact mem_flat_lt (h g (.head _)) hB c hc
    · exact mem_split_lt (fun y hy => h y (.tail _ hy)) hB c hc
theorem folds_ok (hn : ws.length = 5) (hc : ∀ x ∈ ws, chkW x = true) {f : Str} (hf : f ∈ foldsOf ws) : PyData.strOk f = true ∧ ∀ r ∈ Txt.split f (Str.ofString "\n"), 1 ≤ r.length := by
  obtain ⟨s, hs, e⟩ := (mem_foldL (wl_ne hn)).mp (folds_mem hn hf)
  have ef : f = mkS (splitText s) := by rw [← e, mkS_cps]
  have hw := wl_chk hc
  have hsn : s ≠ [] := by rintro rfl; exact wl_ne hn hs.1.symm
  have hgw : ∀ g ∈ s, ∀ w ∈ g, w ∈ wlOf ws := fun g hg w hwg => by rw [← hs.1]; exact List.mem_flatten.mpr ⟨g, hg, hwg⟩
  have hB : ∀ g ∈ s, ∀ w ∈ g, ∀ c ∈ w, c < 200 := fun g hg w hwg c hcw => by
    obtain ⟨x, hx, rfl⟩ := List.mem_map.mp (hgw g hg w hwg)
    exact ((chk_is (hc x hx)).2.2.1 c hcw).2
  constructor
  · rw [ef]
    refine strOk_mkS fun c hcf => ?_
    cases s with
    | nil => exact absurd rfl hsn
    | cons g r =>
      have : c < 200 := by
        rcases List.mem_append.mp hcf with h | h
        · exact mem_flat_lt (hB g (.head _)) (by decide) c h
        · exact mem_split_lt (fun y hy => hB y (.tail _ hy)) (by decide) c h
      omega
  · intro r hr
    rw [ef, split_folding hsn hs fun w h => (hw w h).1] at hr
    obtain ⟨q, hq, rfl⟩ := List.mem_map.mp hr
    have := rowsOf_ne hs.2 (fun g hg w hwg => (hw w (hgw g hg w hwg)).2) q hq
    rw [mkS_len]
    exact List.length_pos_iff.mpr this
theorem folds_rise (hn : ws.length = 5) : (foldsOf ws).Pairwise fun x y => x.cps.toList < y.cps.toList := by
  rw [folds_are hn, List.pairwise_map]
  exact (foldL_pairwise _).imp fun h => by rw [mkS_toList, mkS_toList]; exact h.lt
theorem folds_ne (hn : ws.length = 5) : foldsOf ws ≠ [] := by
  rw [folds_are hn]
  have h := wl_ne hn
  intro e
  have e2 : foldL (wlOf ws) = [] := List.map_eq_nil_iff.mp e
  obtain ⟨w, r, hwr⟩ : ∃ w r, wlOf ws = w :: r := by
    cases q : wlOf ws with
    | nil => exact absurd q h
    | cons w r => exact ⟨w, r, rfl⟩
  have : splitText [wlOf ws] ∈ foldL (wlOf ws) := (mem_foldL h).mpr ⟨[wlOf ws], ⟨by simp, fun g hg => by rw [List.mem_singleton.mp hg]; exact h⟩, rfl⟩
  rw [e2] at this; cases this
theorem folds_fit (hn : ws.length = 5) (hc : ∀ x ∈ ws, chkW x = true) {f : Str} (hf : f ∈ foldsOf ws) : fitsB f (mkS [cc]) W = decide (cntS cc W f = 0) := by
  have := fits_not_taken (sg := cc) (W := W) (wl_ne hn) (wl_chk hc) (folds_mem hn hf)
  rw [mkS_cps] at this
  exact this
theorem folds_last (hn : ws.length = 5) (hc : ∀ x ∈ ws, chkW x = true) {M : Int} (hM : ((sizesOf (mkS [cc]) ws).max?).getD 0 = M) (h : M ≤ W) :
    ∃ w rest, wlOf ws = w :: rest ∧ ∃ L, (foldsOf ws).filter (fun f => decide (cntS cc W f = 0)) = L ++ [mkS (splitText (wr cc W 0 [w] rest))] ∧ ∀ f ∈ L, f.cps.toList < splitText (wr cc W 0 [w] rest) := by
  obtain ⟨w, rest, hwr⟩ : ∃ w r, wlOf ws = w :: r := by
    cases q : wlOf ws with
    | nil => exact absurd q (wl_ne hn)
    | cons w r => exact ⟨w, r, rfl⟩
  have hw := wl_chk hc
  rw [hwr] at hw
  have hM' : ((sizesOf (mkS [cc]) ((w :: rest).map mkS)).max?).getD 0 = M := by rw [← hwr, wl_mk]; exact hM
  obtain ⟨L, h1, h2⟩ := left_last (sg := cc) (W := W) hw hM' h
  refine ⟨w, rest, hwr, L.map mkS, ?_, ?_⟩
  · have e : (foldsOf ws).filter (fun f => decide (cntS cc W f = 0)) = ((foldL (w :: rest)).filter fun f => fitsB (mkS f) (mkS [cc]) W).map mkS := by
      rw [folds_are hn, hwr, List.filter_map]
      congr 1
      refine List.filter_congr fun f hf => ?_
      show decide (cntL cc W (mkS f).cps.toList = 0) = _
      rw [mkS_toList]
      exact (fits_not_taken (List.cons_ne_nil _ _) hw hf).symm
    rw [e, h1, List.map_append]; rfl
  · intro f hf
    obtain ⟨g, hg, rfl⟩ := List.mem_map.mp hf
    rw [mkS_toList]
    exact (h2 g hg).lt
/-- what three_way_cmp tells of each -/
theorem told_are {L : List Str} {z : List Nat} (h : ∀ f ∈ L, f.cps.toList < z) : (L ++ [mkS z]).map (fun f => b2i (decide (f.cps.toList < (mkS z).cps.toList)) - b2i (decide ((mkS z).cps.toList < f.cps.toList))) = List.replicate L.length 1 ++ [0] := by
  rw [List.map_append]
  congr 1
  · refine List.eq_replicate_iff.mpr ⟨by simp, fun q hq => ?_⟩
    obtain ⟨f, hf, rfl⟩ := List.mem_map.mp hq
    have h1 := h f hf
    rw [mkS_toList, decide_eq_true h1, decide_eq_false (fun h2 : z < f.cps.toList => List.lt_irrefl _ (List.lt_trans h1 h2))]
    rfl
  · simp [b2i]
end
end
section
local macro_rules | `(tactic| walk_at "call ref") => `(tactic| walk_at "M stop")
theorem fresh_ne {h₀ h : Heap} {L D : Addr} {news : List (Addr × Obj)} (N : News h₀ L h news) (hD : h.get? D = none) : PyProof.Rows.TLg.AllNe D news := TLgL.allNe_of fun p hp e => by
  have := (N p hp).1
  rw [e, hD] at this; cases this
local macro_rules | `(tactic| walk_at "binaryOp Add str str") => `(tactic| (k_here; (rename Mine.MarkNew => mk'); (with_reducible refine Mine.stopHere ?_)))
local macro_rules | `(tactic| walk_at "binaryOp Mult str int") => `(tactic| walk_at "M stop")
local macro_rules | `(tactic| walk_at "subscriptTail Name Slice str ref") => `(tactic| walk_at "M stop")
theorem news_drop {h₀ h : Heap} {L : Addr} {a : Addr × Obj} {l : List (Addr × Obj)} (N : News h₀ L h (a :: l)) : News h₀ L h l := fun p hp => N p (.tail _ hp)
theorem comp_end {h₀ h h' : Heap} {L I C D : Addr} {m : Str → Option Value} {s₁ : Shared} {oI oC oD : Obj} {S : List (Addr × Obj) → Prop} {rest : Value → List (Addr × Obj) → Prop} {y : Value} {tk : Nat} {news : List (Addr × Obj)}
    (F : Fr h₀ L h m) (N : News h₀ L h ((I, oI) :: (C, oC) :: (D, oD) :: news)) (off : LCg.Off3 I C D news) (hk : ∀ b o, h.get? b = some o → h'.get? b = some o) (a : Addr × Obj) (T : List (Addr × Obj))
    (ha : h'.get? a.1 = some a.2 ∧ h.get? a.1 = none) (hT : ∀ p ∈ T, h'.get? p.1 = some p.2 ∧ h.get? p.1 = none) (hS : S (a :: (news ++ T))) (r : rest y (a :: (news ++ T))) : LCg.CompEnd h₀ L m s₁ I oI C oC D oD S rest y { s₁ with heap := h', toks := tk } := by
  have hl : ∀ p ∈ a :: (news ++ T), p ∈ news ∨ (h'.get? p.1 = some p.2 ∧ h.get? p.1 = none) := fun p hp => by
    rcases List.mem_cons.mp hp with rfl | hp
    · exact .inr ha
    rcases List.mem_append.mp hp with hp | hp
    · exact .inl hp
    · exact .inr (hT p hp)
  have new : ∀ p : Addr × Obj, h'.get? p.1 = some p.2 → h.get? p.1 = none → h'.get? p.1 = some p.2 ∧ p.1 ≠ L ∧ h₀.get? p.1 = none := fun p e1 e2 => by
    refine ⟨e1, fun e => ?_, ?_⟩
    · obtain ⟨oL, _, _, hL, _⟩ := F.ns
      rw [e, hL] at e2; cases e2
    · cases e : h₀.get? p.1 with
      | none => rfl
      | some o' => rw [F.keep _ _ e] at e2; cases e2
  have N' := N.grown hk
  have n0 : ∀ {a : Addr} {o : Obj}, (a, o) ∈ (I, oI) :: (C, oC) :: (D, oD) :: news → ∀ b, h.get? b = none → b ≠ a := fun hm b e q => by
    have := (N _ hm).1
    simp only at this
    rw [← q, e] at this; cases this
  refine ⟨h', tk, _, rfl, F.keeps hk, fun p hp => ?_, LCg.Off3.of fun p hp => ?_, hS, r⟩
  · rcases List.mem_cons.mp hp with rfl | hp
    · exact N' _ (.head _)
    rcases List.mem_cons.mp hp with rfl | hp
    · exact N' _ (.tail _ (.head _))
    rcases List.mem_cons.mp hp with rfl | hp
    · exact N' _ (.tail _ (.tail _ (.head _)))
    rcases hl p hp with q | q
    · exact N' p (.tail _ (.tail _ (.tail _ q)))
    · exact new p q.1 q.2
  · rcases hl p hp with q | q
    · exact off.mem p q
    · exact ⟨n0 (.head _) _ q.2, n0 (.tail _ (.head _)) _ q.2, n0 (.tail _ (.tail _ (.head _))) _ q.2⟩
theorem grp_rep (n : Nat) : (List.replicate n (It.cls 10)).flatMap grpOf = List.replicate n (10, true) := by
  induction n with
  | zero => rfl
  | succ n ih => rw [List.replicate_succ, List.flatMap_cons, ih]; rfl
/-- a mark: addresses are told apart by what lies there -/
noncomputable def MarkCell : Prop := True
noncomputable def TailIs (T : List (Addr × Obj)) : Prop := ∀ p ∈ T, ∃ its, p.2 = tupOf its
theorem tail_ne {h₀ h : Heap} {L c : Addr} {o : Obj} {v : Option Value} {news T : List (Addr × Obj)} (N : News h₀ L h news) (hs : ∀ p ∈ T, p ∈ news) (hT : TailIs T) (hc : (c, o) ∈ news) (d : o.data = .cell v) : ∀ p ∈ T, p.1 ≠ c := fun p hp e => by
  obtain ⟨its, e3⟩ := hT p hp
  have e1 := (N p (hs p hp)).1
  have e2 := (N _ hc).1
  simp only at e2
  rw [e, e2] at e1
  rw [← Option.some.inj e1] at e3
  rw [e3] at d
  cases d
theorem item_sign (z : Int) : (Txt.item (Str.ofString ";,") (z.fmod 2) = mkS [59] ∧ Txt.item (Str.ofString ",;") (z.fmod 2) = mkS [44]) ∨ (Txt.item (Str.ofString ";,") (z.fmod 2) = mkS [44] ∧ Txt.item (Str.ofString ",;") (z.fmod 2) = mkS [59]) := by
  have h : z.fmod 2 = 0 ∨ z.fmod 2 = 1 := by
    have h1 := Int.fmod_nonneg_of_pos z (b := 2) (by decide)
    have h2 := Int.fmod_lt_of_pos z (b := 2) (by decide)
    lia
  rcases h with h | h <;> rw [h] <;> decide
local macro_rules | `(tactic| k_all) => `(tactic| ((rename Mine.MarkCell => mkc); first | exact List.forall_mem_nil _ | (refine' List.forall_mem_cons.mpr ⟨?a, ?b⟩; (case a => k_ne); (case b => k_all)) | refine Mine.tail_ne (by with_reducible assumption) (by intro _ _; walk_at "M tail") (by with_reducible assumption) (by k_mem) (by with_reducible assumption)))
local macro_rules | `(tactic| walk_at "M tail") => `(tactic| first | exact (by assumption) | (refine List.Mem.tail _ ?_; walk_at "M tail"))
theorem up_to {a b : Int} (h1 : 1 ≤ a) (h2 : 0 ≤ b) : a ≤ ((a + b).toNat : Int) := by lia
theorem sig_cc {sg ot : Str} {cc : Nat} (h : (sg = mkS [59] ∧ ot = mkS [44]) ∨ (sg = mkS [44] ∧ ot = mkS [59])) (e : sg = mkS [cc]) : cc = 59 ∨ cc = 44 := by
  rcases h with ⟨h, _⟩ | ⟨h, _⟩ <;> rw [e] at h <;> have h3 := mkS_inj h <;> simp at h3 <;> lia
theorem small16 {n : Nat} (h : n ≤ 16) : ((n : Int) + 1) ≤ 16384 := by lia
theorem low16 (n : Nat) : -(2 ^ 63 : Int) ≤ (n : Int) := by lia
theorem high16 {n : Nat} (h : n ≤ 16) : (n : Int) < 2 ^ 63 := by lia
theorem size16 {n : Nat} {v : Value} (h : n ≤ 16) : [v].length * ((n : Int)).toNat ≤ 2 ^ 24 := by simp; lia
theorem flat1 (n : Nat) (v : Int) : (List.replicate n [v]).flatten = List.replicate n v := by
  induction n with
  | zero => rfl
  | succ n ih => rw [List.replicate_succ, List.flatten_cons, ih]; rfl
theorem sum16 {n : Nat} (h : n ≤ 16) : (List.replicate n (1 : Int)).length + [(0 : Int)].length ≤ sizeLine := by rw [List.length_replicate, sizeLine_eq]; simp; lia
theorem up_nat {x : Int} (h : 0 ≤ x) : (x + 1).toNat = x.toNat + 1 := by lia
theorem up1 (x : Nat) : x + 1 ≠ x := by lia
theorem up2 (x : Nat) : x + 1 + 1 ≠ x := by lia
theorem up3 (x : Nat) : x + 1 + 1 + 1 ≠ x := by lia
theorem led_ne {h₀ h : Heap} {L a c : Addr} {o1 o2 : Obj} {v : Option Value} {news : List (Addr × Obj)} (N : News h₀ L h news) (h1 : (a, o1) ∈ news) (h2 : (c, o2) ∈ news) (d : o2.data = .cell v) (hd : ∀ v, o1.data ≠ .cell v) : a ≠ c := fun e => by
  have e1 := (N _ h1).1
  have e2 := (N _ h2).1
  simp only at e1 e2
  rw [e, e2] at e1
  rw [← Option.some.inj e1] at hd
  exact hd _ d
local macro_rules | `(tactic| walk_at "M up") => `(tactic| first | assumption | exact up1 _ | exact up2 _ | exact up3 _)
local macro_rules | `(tactic| k_ne) => `(tactic| ((rename Mine.MarkCell => mkc); (try dsimp only); first | with_reducible (walk_at "M up") | with_reducible (refine Ne.symm ?_; walk_at "M up") | refine Mine.led_ne (by with_reducible assumption) (by k_mem) (by k_mem) (by with_reducible assumption) (by intro _ e; cases e)))
local macro_rules | `(tactic| walk_at "M tail2") => `(tactic| first | exact List.mem_append_left _ (by assumption) | exact List.mem_append_right _ (by assumption) | (refine List.Mem.tail _ ?_; walk_at "M tail2"))
theorem signs_led {h₀ h : Heap} {L : Addr} {news T : List (Addr × Obj)} {vs : List Value} {gs : List (Nat × Bool)} (N : News h₀ L h news) (hs : ∀ p ∈ T, p ∈ news) (h1 : Paired (SignIn T) vs gs) : SignsAre h vs gs :=
  paired_imp (fun _ _ ⟨ta, t, e, m⟩ => ⟨ta, t, e, (N _ (hs _ m)).1⟩) h1
theorem strs_nil {fs : List Str} (h : StrsAre [] fs) : fs = [] := by cases h; rfl
theorem strs_cons {v : Value} {vs : List Value} {fs : List Str} (h : StrsAre (v :: vs) fs) : ∃ f t gs, v = .str f t ∧ fs = f :: gs ∧ StrsAre vs gs := by
  cases h with | cons f t r => exact ⟨f, t, _, rfl, rfl, r⟩
theorem same_strs1 {f : Str} {t : Tok} {us : List Value} {ys : List Value} (h : Paired (fun _ r => r = Value.str f t) us ys) : StrsAre ys (List.replicate us.length f) := by
  induction h with
  | nil => exact .nil
  | cons e r ih => rw [e]; exact .cons f t ih
theorem strsAre_app {xs ys : List Value} {a b : List Str} (h : StrsAre xs a) (h2 : StrsAre ys b) : StrsAre (xs ++ ys) (a ++ b) := by
  induction h with
  | nil => exact h2
  | cons x t r ih => exact .cons x t ih
theorem many_strs {cnt : Str → Nat} {p : Value → Value → Bool} {U : Value → List Value → Prop} (h : ∀ f t us, U (.str f t) us → (us.filter (p (.str f t))).length = cnt f)
    {vs : List Value} {fs : List Str} {yss : List (List Value)} (hs : StrsAre vs fs) (hp : Paired (fun v ys => ∃ us, U v us ∧ Paired (fun _ r => r = v) (us.filter (p v)) ys) vs yss) : StrsAre yss.flatten (manyOf cnt fs) := by
  induction hp generalizing fs with
  | nil => rw [strs_nil hs]; exact .nil
  | cons h1 r ih =>
    obtain ⟨f, t, gs, e1, e2, r2⟩ := strs_cons hs
    obtain ⟨us, hU, hp⟩ := h1
    subst e1 e2
    have e := same_strs1 hp
    rw [h f t us hU] at e
    exact strsAre_app e (ih r2)
theorem fr_slots {h₀ h h' : Heap} {L : Addr} {m : Str → Option Value} (F : Fr h₀ L h m) (hk : ∀ b o, b ≠ L → h.get? b = some o → h'.get? b = some o) (hL : ∀ oL, h.get? L = some oL → ∃ sl, h'.get? L = some { oL with slots := sl }) : Fr h₀ L h' m := by
  refine ⟨?_, fun b o e => hk b o (fun q => ?_) (F.keep b o e), F.above⟩
  · obtain ⟨o, es, ep, e, d, r⟩ := F.ns
    obtain ⟨sl, e2⟩ := hL o e
    exact ⟨_, es, ep, e2, d, r⟩
  · rw [q, Heap.get?_none_of_le F.above] at e; cases e
theorem news_slots {h₀ h h' : Heap} {L : Addr} {news : List (Addr × Obj)} (N : News h₀ L h news) (hk : ∀ b o, b ≠ L → h.get? b = some o → h'.get? b = some o) : News h₀ L h' news := fun p hp => ⟨hk _ _ (N p hp).2.1 (N p hp).1, (N p hp).2⟩
theorem cnt_two {cc W : Nat} {Dg1 Dg2 : Addr} (hne : Dg2 ≠ Dg1) (f : Str) (t : Tok) : (([.ref Dg1, .ref Dg2] : List Value).filter (fun u => match u with | .ref a => if a = Dg1 then tk1 W (strOf (.str f t)).cps.toList else tk2 cc (strOf (.str f t)).cps.toList | _ => false)).length = cntS cc W f := by
  unfold cntS cntL
  simp only [strOf, List.filter_cons, List.filter_nil, if_pos, if_neg hne]
  cases tk1 W f.cps.toList <;> cases tk2 cc f.cps.toList <;> rfl
theorem led_apart {h₀ h : Heap} {L a c : Addr} {o1 o2 : Obj} {news : List (Addr × Obj)} (N : News h₀ L h news) (h1 : (a, o1) ∈ news) (h2 : (c, o2) ∈ news) (d : o1.data ≠ o2.data) : a ≠ c := fun e => by
  have e1 := (N _ h1).1
  have e2 := (N _ h2).1
  simp only at e1 e2
  rw [e, e2] at e1
  exact d (by rw [Option.some.inj e1])
theorem after_two {h₀ h h' : Heap} {L : Addr} {m : Str → Option Value} {news : List (Addr × Obj)} {o1 o2 : Obj} (F : Fr h₀ L h m) (N : News h₀ L h news) (h1 : (157, o1) ∈ news) (h2 : (164, o2) ∈ news)
    (hk : ∀ b o, b ≠ 157 → b ≠ 164 → h.get? b = some o → h'.get? b = some o) : Fr h₀ L h' m := by
  refine ⟨?_, fun b o e => hk b o (fun q => ?_) (fun q => ?_) (F.keep b o e), F.above⟩
  · obtain ⟨oL, es, ep, e, d, r⟩ := F.ns
    exact ⟨oL, es, ep, hk _ _ (fun q => (N _ h1).2.1 q.symm) (fun q => (N _ h2).2.1 q.symm) e, d, r⟩
  · rw [q, (N _ h1).2.2] at e; cases e
  · rw [q, (N _ h2).2.2] at e; cases e
theorem news_five {h₀ h h' : Heap} {L a b : Addr} {news : List (Addr × Obj)} {oa ob : Obj} {v : Option Value} {ps0 ps1 ps2 : Array Value} (N : News h₀ L h news) (h1 : (157, tabObj #[]) ∈ news) (h2 : (164, tabObj #[]) ∈ news) (h3 : (225, tabObj ps0) ∈ news)
    (hk : ∀ b o, b ≠ 157 → b ≠ 164 → h.get? b = some o → h'.get? b = some o) (ha : (a, oa) ∈ news) (da : oa.data ≠ (tabObj #[]).data) (hb : (b, ob) ∈ news) (db : ob.data = .cell v) (e1 : h'.get? 157 = some (tabObj ps1)) (e2 : h'.get? 164 = some (tabObj ps2)) :
    News h₀ L h' [(a, oa), (b, ob), (225, tabObj ps0), (157, tabObj ps1), (164, tabObj ps2)] := fun p hp => by
  have db' : ob.data ≠ (tabObj #[]).data := by rw [db]; intro e; cases e
  rcases List.mem_cons.mp hp with rfl | hp
  · exact ⟨hk _ _ (led_apart N ha h1 da) (led_apart N ha h2 da) (N _ ha).1, (N _ ha).2⟩
  rcases List.mem_cons.mp hp with rfl | hp
  · exact ⟨hk _ _ (led_apart N hb h1 db') (led_apart N hb h2 db') (N _ hb).1, (N _ hb).2⟩
  rcases List.mem_cons.mp hp with rfl | hp
  · exact ⟨hk _ _ (show (225 : Nat) ≠ 157 by decide) (show (225 : Nat) ≠ 164 by decide) (N _ h3).1, (N _ h3).2⟩
  rcases List.mem_cons.mp hp with rfl | hp
  · exact ⟨e1, (N _ h1).2⟩
  · rw [List.mem_singleton.mp hp]
    exact ⟨e2, (N _ h2).2⟩
/-- a good end of a law whose walk made generators: what was asked, told of the state without them -/
theorem good_up {cw : ClaimW} {cl : Str → Option Addr} {mean : ExcName → Option Value} {args : List WData} {tabs : List (Addr × Addr)} {s₁ s' : Shared} {r : Result} (hT : TabsAt tabs s₁.heap) (hr : ∀ a x, cw.raises a x = false)
    (g : GoodW cw cl mean args { s₁ with heap := ghostOf s₁.heap tabs } r { s' with gens := #[] }) (hgr : GrownAll tabs s'.heap) (hb : AllBare s'.gens) : GoodWG cw cl mean args s₁ r s' := by
  have two : ∀ b o, s₁.heap.get? b = some o → (ghostOf s₁.heap tabs).get? b = some o ∨ (isCodeTable s₁.heap b ∧ o = tabObj #[] ∧ ∃ ps, s'.heap.get? b = some (tabObj ps)) := fun b o e => by
    by_cases hm : b ∈ tabs.map (·.2)
    · obtain ⟨q, hq, rfl⟩ := List.mem_map.mp hm
      have h0 := hT q hq
      exact .inr ⟨(h0.1.tab h0.2).isCodeTable, Option.some.inj (e.symm.trans h0.2), hgr.get q hq⟩
    · exact .inl (ghost_ne e hm)
  obtain ⟨gc, gk, gos, _⟩ := g
  refine ⟨?_, ⟨fun b o e => ?_, fun b o e => ?_⟩, gos, hb⟩
  · rcases gc with ⟨v, d, as, q1, q2, q3, q4, q5⟩ | ⟨_, _, x, _, _, _, q4, _⟩
    · refine .inl ⟨v, d, as, q1, q2, q3, q4, fun q => ⟨(q5 q).1, fun a ha => ?_⟩⟩
      cases h1 : s₁.heap.get? a with
      | none => rfl
      | some o =>
        rcases two a o h1 with h2 | ⟨_, _, ps, hP⟩
        · have := (q5 q).2 a ha
          rw [show (ghostOf s₁.heap tabs).get? a = some o from h2] at this
          cases this
        · exact absurd ha (readsW_apart hP rfl q3)
    · rw [hr] at q4; cases q4
  · rcases two b o e with h2 | ⟨ht, rfl, ps, hP⟩
    · exact .inl (gk b o h2)
    · exact .inr (.inl ⟨ht, rfl, #[], ps, rfl, by rw [Array.empty_append]; exact hP⟩)
  · rcases two b o e with h2 | ⟨_, _, ps, hP⟩
    · exact ⟨o, gk b o h2⟩
    · exact ⟨_, hP⟩
theorem post_up {M : Model} {A : Around} {cd : Code} {s s₁ : Shared} {cw : ClaimW} {cl : Str → Option Addr} {mean : ExcName → Option Value} {args : List WData} {tabs : List (Addr × Addr)} (hT : TabsAt tabs s₁.heap) (hr : ∀ a x, cw.raises a x = false)
    (h : codeAny M A cd (fun r s' => (GoodW cw cl mean args { s₁ with heap := ghostOf s₁.heap tabs } r { s' with gens := #[] } ∧ AllBare s'.gens) ∧ GrownAll tabs s'.heap) s) : codeAny M A cd (GoodWG cw cl mean args s₁) s :=
  codeAny_mono h fun _ _ q => good_up hT hr q.1.1 q.2 q.1.2
theorem ints_of_tells {z : Str} {xs ys : List Value} {fs : List Str} (hs : StrsAre xs fs) (hp : Paired (fun v y => ∃ t, y = .int (b2i (decide ((strOf v).cps.toList < z.cps.toList)) - b2i (decide (z.cps.toList < (strOf v).cps.toList))) t) xs ys) : IntsAre ys (fs.map fun f => b2i (decide (f.cps.toList < z.cps.toList)) - b2i (decide (z.cps.toList < f.cps.toList))) := by
  induction hp generalizing fs with
  | nil => rw [strs_nil hs]; exact .nil
  | cons h1 r ih =>
    obtain ⟨f, t, gs, e1, e2, r2⟩ := strs_cons hs
    obtain ⟨t', e3⟩ := h1
    subst e1 e2 e3
    exact .cons _ t' (ih r2)
theorem law_holds.tw357486453476387696 : True := trivial
theorem law_holds.tw7604666192120794032 : True := trivial
theorem law_holds.tw6927793712695671261 : True := trivial
theorem law_holds.tw10532569557147843232 : True := trivial
theorem law_holds.tw13536078969547264968 : True := trivial
theorem law_holds.tw16178365344336768216 : True := trivial
theorem law_holds.tw17502402720220698711 : True := trivial
theorem law_holds.tw7093711212748702512 : True := trivial
theorem law_holds.tw7930489173983624532 : True := trivial
theorem law_holds.tw1599026117119855824 : True := trivial
theorem law_holds.tw14390768473861134807 : True := trivial
theorem law_holds.tw12496508351571488999 : True := trivial
theorem law_holds.tw3962998107016518992 : True := trivial
theorem law_holds.tw2136941040597916148 : True := trivial
theorem law_holds.tw12355310320410668063 : True := trivial
theorem law_holds.tw15808056717442887509 : True := trivial
theorem law_holds.tw4581164400922460565 : True := trivial
theorem law_holds.tw14237007407634236972 : True := trivial
theorem law_holds.tw14455624779970515874 : True := trivial
theorem law_holds.tw18230188656091986755 : True := trivial
theorem law_holds.tw8763168800255643514 : True := trivial
theorem law_holds.tw11544315989524547432 : True := trivial
theorem law_holds.tw5117662029339320154 : True := trivial
theorem law_holds.tw3033269912633744064 : True := trivial
theorem law_holds.tw12647261435108384846 : True := trivial
theorem law_holds.tw3158907127566229856 : True := trivial
theorem law_holds.tw9549980726826006598 : True := trivial
theorem law_holds.tw14385925486924208373 : True := trivial
theorem law_holds.tw2102315897755806987 : True := trivial
theorem law_holds.tw10242277825702978295 : True := trivial
theorem law_holds.tw16935243356766158856 : True := trivial
theorem law_holds.tw6010987050077198686 : True := trivial
theorem law_holds.tw10876394233666535175 : True := trivial
theorem law_holds.tw18221428039690301666 : True := trivial
theorem law_holds.tw11097158420108258118 : True := trivial
theorem law_holds.tw6727219029552735585 : True := trivial
theorem law_holds.tw4524032621918665186 : True := trivial
theorem law_holds.tw5920216800500632969 : True := trivial
theorem law_holds.tw1099259369241382048 : True := trivial
theorem law_holds.tw7221428835167493151 : True := trivial
theorem law_holds.tw602461330855297101 : True := trivial
theorem law_holds.tw9889521400790421688 : True := trivial
theorem law_holds.tw17713402740875732926 : True := trivial
theorem law_holds.tw16614716721108272449 : True := trivial
theorem law_holds.tw7769649832755249146 : True := trivial
theorem law_holds.tw16074064945343616743 : True := trivial
theorem law_holds.tw13190408463805328480 : True := trivial
theorem law_holds.tw15352839923633478061 : True := trivial
theorem law_holds.tw850272041215511910 : True := trivial
theorem law_holds.tw15694993059591697976 : True := trivial
theorem law_holds.tw2090888555730037645 : True := trivial
theorem law_holds.tw907578622648922086 : True := trivial
theorem law_holds.tw10812634152524527747 : True := trivial
theorem law_holds.tw18090433342136740992 : True := trivial
theorem law_holds.tw5455921660152230842 : True := trivial
theorem law_holds.tw123295346585929383 : True := trivial
theorem law_holds.tw11625900857008200698 : True := trivial
theorem law_holds.tw10442559174759676424 : True := trivial
theorem law_holds.tw4146061822495498468 : True := trivial
theorem law_holds.tw179590077315354965 : True := trivial
theorem law_holds.tw4593294709026258786 : True := trivial
theorem law_holds.tw9069877914133315304 : True := trivial
theorem law_holds.tw14997073306097389879 : True := trivial
theorem law_holds.tw18388893480867403737 : True := trivial
theorem law_holds.tw6885031118289071971 : True := trivial
theorem law_holds.tw13431030151845061361 : True := trivial
theorem law_holds.tw1285599515219305098 : True := trivial
theorem law_holds.tw11330957891505755796 : True := trivial
theorem law_holds.tw3494445600050047599 : True := trivial
theorem law_holds.tw18051328159682125866 : True := trivial
theorem law_holds.tw631266038723830076 : True := trivial
theorem law_holds.tw3049941959672503198 : True := trivial
theorem law_holds.tw12684681026606017882 : True := trivial
theorem law_holds.tw2618386414584295968 : True := trivial
theorem law_holds.tw14377833709258309704 : True := trivial
theorem law_holds.tw15806970514647361693 : True := trivial
theorem law_holds.tw17255088995462705879 : True := trivial
theorem law_holds.tw455179833554555240 : True := trivial
theorem law_holds.tw607667584577438428 : True := trivial
theorem law_holds.tw5274592661964301406 : True := trivial
theorem law_holds.tw11098625913536864229 : True := trivial
theorem law_holds.tw10301956948240465243 : True := trivial
theorem law_holds.tw1110774673406346159 : True := trivial
theorem law_holds.tw1622690429015379626 : True := trivial
theorem law_holds.tw8836851574564057595 : True := trivial
theorem law_holds.tw4818577856007422655 : True := trivial
theorem law_holds.tw9779807473162285230 : True := trivial
theorem law_holds.tw16720094985154256693 : True := trivial
theorem law_holds.tw11966672015165255308 : True := trivial
theorem law_holds.tw15274831704391544125 : True := trivial
theorem law_holds.tw6159533029260741167 : True := trivial
theorem law_holds.tw6564709946809587534 : True := trivial
theorem law_holds.tw10643469859437029617 : True := trivial
theorem law_holds.tw8634839017697508684 : True := trivial
theorem law_holds.tw14545874151571354728 : True := trivial
theorem law_holds.tw10222300733896627045 : True := trivial
theorem law_holds.tw12476058986133298565 : True := trivial
theorem law_holds.tw10817052189556005596 : True := trivial
theorem law_holds.tw8890443458166856008 : True := trivial
theorem law_holds.tw3808703085821546077 : True := trivial
theorem law_holds.tw16883458599210261866 : True := trivial
theorem law_holds.tw5907203647135998699 : True := trivial
theorem law_holds.tw784011647948385275 : True := trivial
theorem law_holds.tw9606376775287448836 : True := trivial
theorem law_holds.tw3912811242725288453 : True := trivial
theorem law_holds.tw8785698371604719795 : True := trivial
theorem law_holds.tw12223724995276690173 : True := trivial
theorem law_holds.tw11232796583565578275 : True := trivial
theorem law_holds.tw16461882675039125421 : True := trivial
theorem law_holds.tw13882729330811710610 : True := trivial
theorem law_holds.tw3253820488102484341 : True := trivial
theorem law_holds.tw1762888911704233025 : True := trivial
theorem law_holds.tw15154110283740273250 : True := trivial
theorem law_holds.tw14983226153234331074 : True := trivial
theorem law_holds.tw8984152853971343422 : True := trivial
theorem law_holds.tw15544829507116839252 : True := trivial
theorem law_holds.tw11100686419730198450 : True := trivial
theorem law_holds.tw11470271118054631628 : True := trivial
theorem law_holds.tw11097350217990362986 : True := trivial
theorem law_holds.tw9207643191828677137 : True := trivial
theorem law_holds.tw2043166853727251185 : True := trivial
theorem law_holds.tw2695550118857162214 : True := trivial
theorem law_holds.tw6074083901468033465 : True := trivial
theorem law_holds.tw4470285039934516160 : True := trivial
theorem law_holds.tw576407869801174206 : True := trivial
theorem law_holds.tw8652346329174877282 : True := trivial
theorem law_holds.tw15726739188670627701 : True := trivial
theorem law_holds.tw9552830710289189752 : True := trivial
theorem law_holds.tw2025218352740532070 : True := trivial
theorem law_holds.tw5728293988275032746 : True := trivial
theorem law_holds.tw10435077654142135991 : True := trivial
theorem law_holds.tw13800757232730249582 : True := trivial
theorem law_holds.tw11609493526922420660 : True := trivial
theorem law_holds.tw2175471002772951711 : True := trivial
theorem law_holds.tw11846676642670509255 : True := trivial
theorem law_holds.tw11210074238304444729 : True := trivial
theorem law_holds.tw12419048959643632839 : True := trivial
theorem law_holds.tw6177916462887485040 : True := trivial
theorem law_holds.tw2903333896348957400 : True := trivial
theorem law_holds.tw11463670642173560981 : True := trivial
theorem law_holds.tw14646867148444618371 : True := trivial
theorem law_holds.tw11764581739189218997 : True := trivial
theorem law_holds.tw4781243967656130014 : True := trivial
theorem law_holds.tw14925382992726071281 : True := trivial
theorem law_holds.tw7897602043232517924 : True := trivial
theorem law_holds.tw1414043511812021011 : True := trivial
theorem law_holds.tw10666784280354678857 : True := trivial
theorem law_holds.tw8472228645029834797 : True := trivial
theorem law_holds.tw1268441647819290835 : True := trivial
theorem law_holds.tw8984712037535005518 : True := trivial
theorem law_holds.tw12459966957829302596 : True := trivial
theorem law_holds.tw724200737284857819 : True := trivial
theorem law_holds.tw12780804625047726367 : True := trivial
theorem law_holds.tw4464252984393422682 : True := trivial
theorem law_holds.tw3850375180904979519 : True := trivial
theorem law_holds.tw2075624079617657780 : True := trivial
theorem law_holds.tw10264638600885302300 : True := trivial
theorem law_holds.tw13400343074829338244 : True := trivial
theorem law_holds.tw13709617746848070560 : True := trivial
theorem law_holds.tw16836969012518115619 : True := trivial
theorem law_holds.tw498061464947678834 : True := trivial
theorem law_holds.tw8191475993861738794 : True := trivial
theorem law_holds.tw12149405283708829123 : True := trivial
theorem law_holds.tw2578278018795888234 : True := trivial
theorem law_holds.tw4441770287765753910 : True := trivial
theorem law_holds.tw1905533677188600702 : True := trivial
theorem law_holds.tw13250372474279835810 : True := trivial
theorem law_holds.tw519298541982818421 : True := trivial
theorem law_holds.tw3910120701321347557 : True := trivial
theorem law_holds.tw18006792725990754497 : True := trivial
theorem law_holds.tw11484002064277903863 : True := trivial
theorem law_holds.tw745255978533919091 : True := trivial
theorem law_holds.tw12977093529070104392 : True := trivial
theorem law_holds.tw15732109348078318572 : True := trivial
theorem law_holds.tw6723812968561706957 : True := trivial
theorem law_holds.tw445335354869643106 : True := trivial
theorem law_holds.tw13220211186989608806 : True := trivial
theorem law_holds.tw4503035019201841076 : True := trivial
theorem law_holds.tw6586085781419682490 : True := trivial
theorem law_holds.tw16099233806120587224 : True := trivial
theorem law_holds.tw16978406815995349258 : True := trivial
theorem law_holds.tw10968802771074238664 : True := trivial
theorem law_holds.tw17899081815984039989 : True := trivial
theorem law_holds.tw3005452535816212104 : True := trivial
theorem law_holds.tw10441050188594101415 : True := trivial
theorem law_holds.tw2331563316162433747 : True := trivial
theorem law_holds.tw2139172203440323022 : True := trivial
theorem law_holds.tw14160533322030094474 : True := trivial
theorem law_holds.tw4995542688137877417 : True := trivial
theorem law_holds.tw16563099163409725306 : True := trivial
theorem law_holds.tw11426015686315989412 : True := trivial
theorem law_holds.tw1909877003179415225 : True := trivial
theorem law_holds.tw13028658284911697911 : True := trivial
theorem law_holds.tw14571795756577361901 : True := trivial
theorem law_holds.tw10362271348294423435 : True := trivial
theorem law_holds.tw4581845663705801772 : True := trivial
theorem law_holds.tw14774650325386425613 : True := trivial
theorem law_holds.tw1819975233463548508 : True := trivial
theorem law_holds.tw2370575245637988567 : True := trivial
theorem law_holds.tw4273555757443719353 : True := trivial
theorem law_holds.tw440325148559900515 : True := trivial
theorem law_holds.tw660297872995803996 : True := trivial
theorem law_holds.tw3035144380315620824 : True := trivial
theorem law_holds.tw17274716441693411508 : True := trivial
theorem law_holds.tw13958071646730322851 : True := trivial
theorem law_holds.tw2269544990204364226 : True := trivial
theorem law_holds.tw16098122237329998606 : True := trivial
theorem law_holds.tw2446358144275080391 : True := trivial
theorem law_holds.tw6869992995446874880 : True := trivial
theorem law_holds.tw13402424001964919149 : True := trivial
theorem law_holds.tw12847567107135931479 : True := trivial
theorem law_holds.tw12622292602297523153 : True := trivial
theorem law_holds.tw17027635718292003107 : True := trivial
theorem law_holds.tw15802469936163623734 : True := trivial
theorem law_holds.tw12626328134170644701 : True := trivial
theorem law_holds.tw18269650602155537469 : True := trivial
theorem law_holds.tw13766487248619392586 : True := trivial
theorem law_holds.tw4889031023730116350 : True := trivial
theorem law_holds.tw2339010765221090281 : True := trivial
theorem law_holds.tw5112083995522966620 : True := trivial
theorem law_holds.tw41732636909640268 : True := trivial
theorem law_holds.tw545109181885906688 : True := trivial
theorem law_holds.tw10024239376800412576 : True := trivial
theorem law_holds.tw12831907817818079685 : True := trivial
theorem law_holds.tw10726639523019406850 : True := trivial
theorem law_holds.tw6507877686720480950 : True := trivial
theorem law_holds.tw4916342969005030805 : True := trivial
theorem law_holds.tw13983371404066579822 : True := trivial
theorem law_holds.tw7408472829698581751 : True := trivial
theorem law_holds.tw16893121556090616931 : True := trivial
theorem law_holds.tw1377309892636839040 : True := trivial
theorem law_holds.tw14289194402921355359 : True := trivial
theorem law_holds.tw3756308257209627903 : True := trivial
theorem law_holds.tw17911580528928914924 : True := trivial
theorem law_holds.tw8909828626151137519 : True := trivial
theorem law_holds.tw10027879121665395642 : True := trivial
theorem law_holds.tw447027507633508388 : True := trivial
theorem law_holds.tw17942709131360195518 : True := trivial
theorem law_holds.tw1053317679998426468 : True := trivial
theorem law_holds.tw13956741780833797525 : True := trivial
theorem law_holds.tw15661869461025623997 : True := trivial
theorem law_holds.tw15448297888555860652 : True := trivial
theorem law_holds.tw15140378357190847165 : True := trivial
theorem law_holds.tw3850404396616230974 : True := trivial
theorem law_holds.tw4008084134468147086 : True := trivial
theorem law_holds.tw1550374771381668074 : True := trivial
theorem law_holds.tw14596297492920191028 : True := trivial
theorem law_holds.tw8549365171731915398 : True := trivial
theorem law_holds.tw6709271908398517637 : True := trivial
theorem law_holds.tw14904137174637212347 : True := trivial
theorem law_holds.tw11223184984439025696 : True := trivial
theorem law_holds.tw6911747868599837429 : True := trivial
theorem law_holds.tw699380112222796084 : True := trivial
theorem law_holds.tw4992725456586698614 : True := trivial
theorem law_holds.tw1989176631692091739 : True := trivial
theorem law_holds.tw1689763614830377041 : True := trivial
theorem law_holds.tw8266603773606604290 : True := trivial
theorem law_holds.tw15905663110009708171 : True := trivial
theorem law_holds.tw5769158387606399586 : True := trivial
theorem law_holds.tw15829985883664642994 : True := trivial
theorem law_holds.tw3882201998751590657 : True := trivial
theorem law_holds.tw12889673554181485818 : True := trivial
theorem law_holds.tw16406091861079842607 : True := trivial
theorem law_holds.tw7408322871517469003 : True := trivial
theorem law_holds.tw15014403891855920072 : True := trivial
theorem law_holds.tw3426384778480675251 : True := trivial
theorem law_holds.tw3186734533307500241 : True := trivial
theorem law_holds.tw5506821171919863439 : True := trivial
theorem law_holds.tw1928719863018725356 : True := trivial
theorem law_holds.tw15527639110640922598 : True := trivial
theorem law_holds.tw11924911360389889469 : True := trivial
theorem law_holds.tw2322801206320994539 : True := trivial
theorem law_holds.tw10609929442622069884 : True := trivial
theorem law_holds.tw4329158554759489670 : True := trivial
theorem law_holds.tw6667284449218939238 : True := trivial
theorem law_holds.tw8720880381367431298 : True := trivial
theorem law_holds.tw15191720212996534143 : True := trivial
theorem law_holds.tw6934448944433832347 : True := trivial
theorem law_holds.tw2644310842459337959 : True := trivial
theorem law_holds.tw926570990666696690 : True := trivial
theorem law_holds.tw18203989763732354715 : True := trivial
theorem law_holds.tw3943428198234077543 : True := trivial
theorem law_holds.tw2136269947727277649 : True := trivial
theorem law_holds.tw14390095281932903014 : True := trivial
theorem law_holds.tw15006436103509636135 : True := trivial
theorem law_holds.tw10486713781251687710 : True := trivial
theorem law_holds.tw10958410103948607464 : True := trivial
theorem law_holds.tw2856731137302751260 : True := trivial
theorem law_holds.tw2295933128562542503 : True := trivial
theorem law_holds.tw488910162270105676 : True := trivial
theorem law_holds.tw6392058062487848421 : True := trivial
theorem law_holds.tw5214047149388004592 : True := trivial
theorem law_holds.tw6854365774998644644 : True := trivial
theorem law_holds.tw8763286347931067418 : True := trivial
theorem law_holds.tw15906373259303338886 : True := trivial
theorem law_holds.tw3098320049680444754 : True := trivial
theorem law_holds.tw11362560536111197300 : True := trivial
theorem law_holds.tw676263390381983339 : True := trivial
theorem law_holds.tw9849722394096787677 : True := trivial
theorem law_holds.tw6499956759230125245 : True := trivial
theorem law_holds.tw8553002610548859549 : True := trivial
theorem law_holds.tw9168033884955339765 : True := trivial
theorem law_holds.tw5914491427308094424 : True := trivial
theorem law_holds.tw12835091436910803158 : True := trivial
theorem law_holds.tw3959601488294255719 : True := trivial
theorem law_holds.tw1778412455037948541 : True := trivial
theorem law_holds.tw4439653461905209652 : True := trivial
theorem law_holds.tw11977050620070087417 : True := trivial
theorem law_holds.tw3896150654470677357 : True := trivial
theorem law_holds.tw9317688335297629284 : True := trivial
theorem law_holds.tw11026575858783421537 : True := trivial
theorem law_holds.tw3366817510852727610 : True := trivial
theorem law_holds.tw1172607208729018732 : True := trivial
theorem law_holds.tw2387193687640843687 : True := trivial
theorem law_holds.tw11347954631545130290 : True := trivial
theorem law_holds.tw8417186165934385351 : True := trivial
theorem law_holds.tw14892801356780361778 : True := trivial
theorem law_holds.tw12115171985352901274 : True := trivial
theorem law_holds.tw1035469204868569938 : True := trivial
theorem law_holds.tw7497986649931050792 : True := trivial
theorem law_holds.tw7407239408455114201 : True := trivial
theorem law_holds.tw3756957479349018193 : True := trivial
theorem law_holds.tw3956099054510807996 : True := trivial
theorem law_holds.tw13780023080261437657 : True := trivial
theorem law_holds.tw7820799176418779761 : True := trivial
theorem law_holds.tw11289095316329951393 : True := trivial
theorem law_holds.tw17028624522117568015 : True := trivial
theorem law_holds.tw12342728606916771844 : True := trivial
theorem law_holds.tw9682718004065560343 : True := trivial
theorem law_holds.tw14051398506283589457 : True := trivial
theorem law_holds.tw7185456241796803578 : True := trivial
theorem law_holds.tw14828999820898988419 : True := trivial
theorem law_holds.tw5640673133297012132 : True := trivial
theorem law_holds.tw8312341600987523519 : True := trivial
theorem law_holds.tw5212653520564569363 : True := trivial
theorem law_holds.tw2643271747718453845 : True := trivial
theorem law_holds.tw6776455111828631412 : True := trivial
theorem law_holds.tw1791086108937442324 : True := trivial
theorem law_holds.tw18234560199702728603 : True := trivial
theorem law_holds.tw17499823404086765753 : True := trivial
theorem law_holds.tw1973129929022764952 : True := trivial
theorem law_holds.tw7356724547972884604 : True := trivial
theorem law_holds.tw4614512636035447770 : True := trivial
theorem law_holds.tw718173064312146323 : True := trivial
theorem law_holds.tw653560878884961445 : True := trivial
theorem law_holds.tw15883345262158282383 : True := trivial
theorem law_holds.tw8441880690091102137 : True := trivial
theorem law_holds.tw6881874429007886204 : True := trivial
theorem law_holds.tw14498155544194170393 : True := trivial
theorem law_holds.tw3927331946688356228 : True := trivial
theorem law_holds.tw11781800970755023335 : True := trivial
theorem law_holds.tw8970147916757833333 : True := trivial
theorem law_holds.tw8957123355933967898 : True := trivial
theorem law_holds.tw2124134355350193313 : True := trivial
theorem law_holds.tw17180001009569633970 : True := trivial
theorem law_holds.tw10566571302883470556 : True := trivial
theorem law_holds.tw2842810181116790245 : True := trivial
theorem law_holds.tw13182730311906835528 : True := trivial
theorem law_holds.tw8570087061310353148 : True := trivial
theorem law_holds.tw11017292853192552079 : True := trivial
theorem law_holds.tw16470317323979864763 : True := trivial
theorem law_holds.tw16887194039231368127 : True := trivial
theorem law_holds.tw3438298445031660282 : True := trivial
theorem law_holds.tw9423440377400516374 : True := trivial
theorem law_holds.tw16760957895259694429 : True := trivial
theorem law_holds.tw16009327648451700120 : True := trivial
theorem law_holds.tw14326059299131336239 : True := trivial
theorem law_holds.tw1385162719727133579 : True := trivial
theorem law_holds.tw12116493165278983582 : True := trivial
theorem law_holds.tw3850334171643177529 : True := trivial
theorem law_holds.tw16947615914383616782 : True := trivial
theorem law_holds.tw18135211599370774712 : True := trivial
theorem law_holds.tw6265907326580845545 : True := trivial
theorem law_holds.tw7495221243884187115 : True := trivial
theorem law_holds.tw11633083819707477107 : True := trivial
theorem law_holds.tw2907507879108658156 : True := trivial
theorem law_holds.tw3253568177066640346 : True := trivial
theorem law_holds.tw18326849912455186884 : True := trivial
theorem law_holds.tw2503670479209048990 : True := trivial
theorem law_holds.tw16805829885119392726 : True := trivial
theorem law_holds.tw10028117763298573888 : True := trivial
theorem law_holds.tw3974387499553966400 : True := trivial
theorem law_holds.tw302768837105346163 : True := trivial
theorem law_holds.tw10350734228115807855 : True := trivial
theorem law_holds.tw881140697980615281 : True := trivial
theorem law_holds.tw9992725586745946429 : True := trivial
theorem law_holds.tw16273140198857503625 : True := trivial
theorem law_holds.tw2557128651999224082 : True := trivial
set_option Elab.async true in
theorem law_holds : PySem.Challenge.rw_ik0127_01.Holds := by
  w_on
  o_law
  o_head (kmHook Mine.hd.heap_1 [2, 3, 32, 34, 35, 37, 38, 46, 48, 49, 51, 52, 53, 55, 56, 58, 59, 60, 62, 63, 65, 66, 67, 69, 70, 72, 73, 74, 76, 77, 79, 80, 81, 83, 84, 86, 87, 88, 90, 91, 93, 94, 95, 97, 98, 100, 101, 102, 104, 105, 107, 108, 109, 110, 111, 112, 113, 116, 119, 124, 125, 126, 128, 129, 131, 132, 133, 135, 136, 138, 139, 140, 141, 143, 144, 146, 147, 148, 149, 151, 152, 154, 155, 156, 158, 159, 161, 162, 163, 165, 166, 168, 169, 170, 171, 173, 174, 176, 177, 178, 180, 181, 183, 184, 185, 186, 188, 189, 191, 192, 193, 194, 195, 196, 197, 203, 204, 205, 207, 208, 210, 211, 213, 217, 219, 220, 222, 223, 224, 226, 227, 229, 230, 231, 233, 234, 236, 237, 238, 240, 241, 243, 244, 245, 247, 248, 250, 251, 252, 254, 255, 257, 258, 259, 261, 262, 264, 265, 266, 268, 269, 271, 272, 273, 276, 277, 278, 280, 281, 283, 284, 285, 288, 289, 290, 293, 294, 295, 298, 299] (fun _ => by kernel_rfl) [225, 157, 164])
  case hw => w_witness2
  k_fill
  intro w s₀ s₁ mg mb G Y fa o pm cd doc dV kV ho hd hcd hD hmg hg args vals as hpre hlay hrd hwl hlo
  have KX := km_in_of Y
  km_tabs Y
  have X := (Ground.X G).1
  have V := (Ground.X G).2
  refine Ground.open G ?_
  intro T B D TE TW
  try (refine guard_noD D (by decide +kernel) ?_; clear D)
  have hT9 : TabsAt [(229, 225), (161, 157), (168, 164)] _ := List.forall_mem_cons.mpr ⟨⟨codeHd_of_K (c := 229) (P := 225) KX (by kernel_rfl), hT8 225 (by k_mem)⟩, List.forall_mem_cons.mpr ⟨⟨codeHd_of_K (c := 161) (P := 157) KX (by kernel_rfl), hT8 157 (by k_mem)⟩, List.forall_mem_cons.mpr ⟨⟨codeHd_of_K (c := 168) (P := 164) KX (by kernel_rfl), hT8 164 (by k_mem)⟩, fun _ h => nomatch h⟩⟩⟩
  clear hmg
  wrow_args hpre hlay hrd hwl hlo
  all_goals (
    first | refine callC_kw (enter_call ?_) | refine enter_call ?_
    w_top on
    (refine Mine.post_up hT9 (fun _ _ => rfl) ?_)
    w_call any ho hd hcd hD T F
    clear hd
    kn_ghosts F T
    k_drop
    skip)
  (try clear V) <;> (try clear TE) <;> (try clear TW) <;> (try clear hT8) <;> (try clear hT9) <;> (try clear B) <;> (try clear KX) <;> (try clear hpre) <;> (try clear hrd) <;> (try clear Y)
  have hAB : AllBare s₁.gens := AllBare.of_eq hg
  generalize hgh : ghostOf s₁.heap _ = G0 at *
  (try k_fold)
  iterate 31 (first | (k_unfold; (try dsimp only)) | (k_end; wrow_close) | walk_at "M w" | (dsimp only; walk_at "M w"))
  k_dflt (refine' Mine.take_tail (n := 5) ?F ?Nq ?l ?i ?z ?_ ?s)
  case F => k_asm
  case Nq => k_asm
  case l => kmk_list
  case i => assumption
  case s => with_unfolding_all rfl
  case z => (have q1 := IntsAre.length (by assumption : IntsAre _ (List.take 5 _ ++ [0, 5, 1, 6, 3]))); rw [q1]; simp only [List.length_append, List.length_take, List.length_cons, List.length_nil]; lia
  intro D5 ws5 h5 F5 N5 l5 i5
  k_lt l5
  k_steps
  rename IntsAre ws5 _ => iw
  rename Frag.In _ G0 => XX
  rename Below callerA _ _ _ => BB
  rename Fr G0 _ _ _ => FF
  rename News G0 _ _ _ => NN
  dsimp +zetaDelta only at FF
  have hnu : ∀ x : List Int, (List.take 5 (List.take 5 x ++ [0, 5, 1, 6, 3])).length = 5 := fun x => by simp only [List.length_take, List.length_append, List.length_cons, List.length_nil]; lia
  generalize hnn : (List.take 5 (List.take 5 (_ : List Int) ++ [(0 : Int), 5, 1, 6, 3]) : List Int) = nu at *
  have hn5 : nu.length = 5 := by rw [← hnn]; exact hnu _
  have hsig := item_sign nu.sum
  generalize Txt.item (Str.ofString ";,") (nu.sum.fmod 2) = sgS at *
  generalize Txt.item (Str.ofString ",;") (nu.sum.fmod 2) = otS at *
  clear hnu
  have hs1 : sgS.length = 1 := by rcases hsig with ⟨rfl, _⟩ | ⟨rfl, _⟩ <;> decide
  have hs2 : otS.length = 1 := by rcases hsig with ⟨_, rfl⟩ | ⟨_, rfl⟩ <;> decide
  apply Mine.words (ns := nu) (vs := ws5)
  ((case B | F | X | T => k_asm); (case hk => with_unfolding_all rfl); (case hd | hu => first | omega | decide | (simp only [ktrTop]; omega)))
  case hl => exact News.isList NN (.head _)
  case hi => exact iw
  case hn => exact hn5
  case hsg => exact hs1
  case hot => exact hs2
  case hret =>
    intro Dw yw cw h7 tk7 hyw hk7 hn7 hDw
    replace NN := news_drop (news_drop (news_drop (news_drop NN)))
    have N7 := news_add FF (NN.grown hk7) hn7 hDw
    replace FF := FF.keeps hk7
    have n7 := fresh_ne NN hn7
    simp only [PyProof.Rows.TLg.AllNe, and_true] at n7
    clear NN
    k_steps
    rename News G0 _ _ _ => N7
    have hwl : ∀ x ∈ wordsTo nu sgS otS 5, 1 ≤ x.length ∧ x.length ≤ 3 := fun x hx => (chk_is (chk_words nu hsig 5 (Nat.le_refl _) x hx)).2.2.2
    apply Mine.widest (ws := wordsTo nu sgS otS 5) (vs := Array.toList yw)
    ((case B | F | X | T => k_asm); (case hk => with_unfolding_all rfl); (case hd | hu => first | omega | decide | (simp only [ktrTop]; omega)))
    case hl => exact News.isList N7 (.head _)
    case hi => exact hyw
    case hn => exact wordsTo_len _ _ _ 5
    case hw => exact hwl
    case hsg => exact hs1
    case hret =>
      intro mx tm h8 tk8 hmx hk8
      have N8 := N7.grown hk8
      rename Fr G0 _ _ _ => FF
      replace FF := FF.keeps hk8
      clear N7
      have hb := widest_bounds (wordsTo_len nu sgS otS 5) hwl hmx
      have h6 : 0 ≤ (nu.sum.fdiv 2 + 1).fmod 6 ∧ (nu.sum.fdiv 2 + 1).fmod 6 < 6 := ⟨Int.fmod_nonneg_of_pos _ (by decide), Int.fmod_lt_of_pos _ (by decide)⟩
      have hmul : MulOk (Str.ofString "[!\n]") (mx + (nu.sum.fdiv 2 + 1).fmod 6 + 1) := mulOk_of 16 1048576 (by decide) (by lia) (by lia) (by decide) (by decide)
      have h1n : 1 ≤ mx + (nu.sum.fdiv 2 + 1).fmod 6 + 1 := mx1 hb h6
      have hml := mul_len _ h1n (by lia)
      k_steps
      refine SB.mul (by with_reducible assumption) ?_
      intro _ _
      k_steps
      rw [pat1 _ h1n]
      apply Mine.translateC (mid := List.replicate (mx + (nu.sum.fdiv 2 + 1).fmod 6 + 1).toNat (.cls 10)) (tb := none)
      ((case B | F | X | T => k_asm); (case hk => with_unfolding_all rfl); (case hd | hu => first | omega | decide | (simp only [ktrTop]; omega)))
      case hpt => rw [List.length_replicate]; lia
      case h0 =>
        intro e
        have := congrArg List.length e
        rw [List.length_replicate, List.length_nil] at this
        exact mx3 hb h6 this
      case hok => intro i hi; rw [List.eq_of_mem_replicate hi]; exact .inl rfl
      case hns => intro i hi; rw [List.eq_of_mem_replicate hi]; intro e; cases e
      case N =>
        rename News G0 _ _ _ => NN
        exact fun p hp => NN p (by rw [List.mem_singleton.mp hp]; k_mem)
      case C => assumption
      case hret =>
        intro t9 h9 tk9 tb9 hk9 hT9
        rename Fr G0 _ _ _ => FF
        rename News G0 _ _ _ => NN
        have hac := after_callU (P := 225) (o := tabObj #[]) (o' := tabObj (tabOf tb9)) FF NN (by (repeat (refine' UpdF.tail ?_ ?_; rotate_left; · (refine neN ?_; (try dsimp only); omega))); k_updF) hk9 hT9
        have F9 := hac.1
        have N9 := hac.2
        (try dsimp only at N9)
        clear FF NN hac
        have hsg2 : (Str.ofString "*[!" ++ sgS).length ≤ 10 := by rcases hsig with ⟨rfl, _⟩ | ⟨rfl, _⟩ <;> decide
        k_steps
        obtain ⟨cc, hcs, hcc, hp2⟩ := pat2 (sg := sgS) (by rcases hsig with ⟨h, _⟩ | ⟨h, _⟩; exact .inl h; exact .inr h)
        rw [hp2]
        apply Mine.translateC (mid := [.cls cc, .nl]) (tb := tb9)
        ((case B | F | X | T => k_asm); (case hk => with_unfolding_all rfl); (case hd | hu => first | omega | decide | (simp only [ktrTop]; omega)))
        case hpt => simp
        case h0 => simp
        case hok =>
          intro i hi
          simp only [List.mem_cons, List.not_mem_nil, or_false] at hi
          rcases hi with rfl | rfl
          · exact hcc
          · trivial
        case hns =>
          intro i hi e
          subst e
          simp at hi
        case N =>
          rename News G0 _ _ _ => NN
          exact fun p hp => NN p (by rw [List.mem_singleton.mp hp]; k_mem)
        case C => assumption
        case hret =>
          intro t10 h10 tk10 tb10 hk10 hT10
          rename Fr G0 _ _ _ => FF
          rename News G0 _ _ _ => NN
          have hac := after_callU (P := 225) (o := tabObj (tabOf tb9)) (o' := tabObj (tabOf tb10)) FF NN (by (repeat (refine' UpdF.tail ?_ ?_; rotate_left; · (refine neN ?_; (try dsimp only); omega))); k_updF) hk10 hT10
          have F10 := hac.1
          have N10 := hac.2
          (try dsimp only at N10)
          clear FF NN hac
          k_steps
          have hW90 : (mx + (nu.sum.fdiv 2 + 1).fmod 6 + 1).toNat ≤ 90 := mx2 hb h6
          generalize hX1 : joined ((List.replicate (mx + (nu.sum.fdiv 2 + 1).fmod 6 + 1).toNat (It.cls 10)).map It.out) = X1 at *
          generalize hX2 : joined ([It.cls cc, It.nl].map It.out) = X2 at *
          have hl1 : X1.length ≤ 1000 := by rw [← hX1]; exact joined_len _ (by rw [List.length_replicate]; exact hW90)
          have hl2 : X2.length ≤ 1000 := by rw [← hX2]; exact joined_len _ (by simp)
          apply Mine.compE (fun _ => true) (fun v y => ∃ x t t', v = .str x t ∧ y = .str (Txt.slice x none (some 10) ++ Txt.slice x (some (-6)) none) t')
          ((case F₀ => k_asm); (case hh | hclos => with_unfolding_all rfl); (case hcell => decide); (case hkind => with_unfolding_all rfl); (case hnames => decide); (case hx => with_unfolding_all rfl); (case hs => intro _; with_unfolding_all rfl))
          k_steps
          refine ⟨_, _, [.str X1 t9, .str X2 t10], rfl, by is_list, (by simp [sizeLine_eq]), by k_asm, by k_asm, ?tests, ?elt, ?rest⟩
          case tests =>
            intro C v s₂ m₂ E' hC hv hn hm F₂ N₂ hk₂
            k_steps
            exact ⟨_, _, rfl, fun _ _ e => e⟩
          case elt =>
            intro C v s₂ m₂ E' hC hv hp hn hm F₂ N₂ hk₂
            obtain ⟨x, t, rfl, hxl⟩ : ∃ x t, v = .str x t ∧ x.length ≤ 1000 := by
              simp only [List.mem_cons, List.not_mem_nil, or_false] at hv
              rcases hv with rfl | rfl
              · exact ⟨_, _, rfl, hl1⟩
              · exact ⟨_, _, rfl, hl2⟩
            have hs1 : (Txt.slice x none (some 10)).length ≤ x.length := PyProof.Txt.length_slice_le x _ _
            have hs2 : (Txt.slice x (some (-6)) none).length ≤ x.length := PyProof.Txt.length_slice_le x _ _
            have hss : (Txt.slice x none (some 10)).length + (Txt.slice x (some (-6)) none).length ≤ sizeLine := by
              have e : sizeLine = 16777216 := sizeLine_eq
              lia
            have mk0 : Mine.MarkNew := ⟨⟩
            k_steps
            rename Heap.Ns _ _ _ => n1
            rename Fr _ _ _ _ => F1
            rename News _ _ _ _ => N1
            k_dflt (refine Mine.sliceK_ns (s := ⟨_, _, _, _, _⟩) (fun h1' t1' k1' hk1' => ?_) (by with_unfolding_all rfl) (by intro _; with_unfolding_all rfl) (by assumption))
            replace F1 := F1.keeps hk1'
            replace N1 := N1.grown hk1'
            replace n1 := Mine.ns_keeps n1 hk1'
            k_steps
            k_dflt (refine Mine.sliceK_sn (s := ⟨_, _, _, _, _⟩) (fun h2' t2' k2' hk2' => ?_) (by with_unfolding_all rfl) (by intro _; with_unfolding_all rfl) (by assumption))
            replace F1 := F1.keeps hk2'
            replace N1 := N1.grown hk2'
            replace n1 := Mine.ns_keeps n1 hk2'
            k_steps
            refine SBL.add (fun t' k' _ => ?_) hss
            refine ⟨⟨x, t, _, rfl, rfl⟩, _, _, rfl, fun b o e => ?_⟩
            solve_by_elim
          case rest =>
            intro D c ys h' tk F N hne hDn hk hP
            obtain ⟨ta, tb, hys⟩ : ∃ ta tb, ys = [.str (Str.ofString "(?s:(?>.*?).*)\\Z") ta, .str (Str.ofString "(?s:(?>.*?).*)\\Z") tb] := by
              simp only [List.filter_cons_of_pos, List.filter_nil] at hP
              cases hP with
              | cons h1 hP =>
                cases hP with
                | cons h2 hP =>
                  cases hP
                  obtain ⟨x1, u1, v1, e1, e2⟩ := h1
                  obtain ⟨x2, u2, v2, e3, e4⟩ := h2
                  cases e1
                  cases e3
                  rw [← hX1, joined_outer] at e2
                  rw [← hX2, joined_outer] at e4
                  exact ⟨_, _, by rw [e2, e4]⟩
            subst hys
            clear hP
            k_steps
            rename News G0 _ _ _ => NN
            replace NN := news_drop (news_drop (news_drop NN))
            refine wpAny_Assign_Name ?_ (by with_unfolding_all rfl)
            refine LCg.ListComp_U (F₀ := by k_asm) (by with_unfolding_all rfl) (by decide) (by with_unfolding_all rfl) (by decide) (by with_unfolding_all rfl) ?_ (by intro _; with_unfolding_all rfl)
            clear hne hk hDn
            k_steps
            apply Mine.signsC (gs := (List.replicate (mx + (nu.sum.fdiv 2 + 1).fmod 6 + 1).toNat (It.cls 10)).flatMap grpOf)
            ((case B | F | X | T => k_asm); (case hk => with_unfolding_all rfl); (case hd | hu => first | omega | decide | (simp only [ktrTop]; omega)))
            case hx => exact hl1
            case hgs => rw [← hX1]; exact joined_inner _ (fun i hi => by rw [List.eq_of_mem_replicate hi]; intro e; cases e)
            case hgl => rw [grp_rep, List.length_replicate]; lia
            case hret =>
              have mkC : Mine.MarkCell := trivial
              intro Dg1 yg1 cg1 hg1 tkg1 T1 hs1g hT1 hkg1 hng1 hDg1
              rename Fr G0 _ _ _ => FF
              rename News G0 _ _ _ => NN
              have hT1c : ∀ p ∈ T1, ∃ its, p.2 = tupOf its := fun p hp => (hT1 p hp).2.2
              have nD1 := fresh_ne NN hng1
              simp only [PyProof.Rows.TLg.AllNe, and_true] at nD1
              refine' Mine.comp_end FF NN ?off hkg1 (Dg1, PySem.W.listOf (List.toArray yg1) cg1) T1 ⟨hDg1, hng1⟩ (fun p hp => ⟨(hT1 p hp).1, (hT1 p hp).2.1⟩) ?S ?r
              case off => simp only [LCg.Off3, and_true]; assumption
              case S => exact Or.inr ⟨_, List.Mem.tail _ (List.mem_append_left _ (List.Mem.head _)), rfl, _, rfl⟩
              case r =>
                dsimp only [List.cons_append, List.nil_append]
                clear FF NN qk
                k_steps
                apply Mine.signsC (gs := ([It.cls cc, It.nl] : List It).flatMap grpOf)
                ((case B | F | X | T => k_asm); (case hk => with_unfolding_all rfl); (case hd | hu => first | omega | decide | (simp only [ktrTop]; omega)))
                case hx => exact hl2
                case hgs => rw [← hX2]; exact joined_inner _ (fun i hi e => by subst e; simp at hi)
                case hgl => simp [grpOf]
                case hret =>
                  intro Dg2 yg2 cg2 hg2 tkg2 T2 hs2g hT2 hkg2 hng2 hDg2
                  rename Fr G0 _ _ _ => FF
                  rename News G0 _ _ _ => NN
                  have hT2c : TailIs (T1 ++ T2) := fun p hp => by
                    rcases List.mem_append.mp hp with hp | hp
                    · exact hT1c p hp
                    · exact (hT2 p hp).2.2
                  have hDg : Dg1 ≠ Dg2 := fun e => by
                    have := (NN (Dg1, _) (by k_mem)).1
                    rw [e] at this
                    rw [hng2] at this; cases this
                  have nD2 := fresh_ne NN hng2
                  simp only [PyProof.Rows.TLg.AllNe, and_true] at nD2
                  refine' Mine.comp_end FF NN ?off hkg2 (Dg2, PySem.W.listOf (List.toArray yg2) cg2) T2 ⟨hDg2, hng2⟩ (fun p hp => ⟨(hT2 p hp).1, (hT2 p hp).2.1⟩) ?S ?r
                  case off => simp only [LCg.Off3, and_true]; assumption
                  case S => exact Or.inr ⟨_, List.Mem.tail _ (List.mem_append_left _ (List.Mem.tail _ (List.Mem.head _))), rfl, _, rfl⟩
                  case r =>
                    dsimp only [List.cons_append, List.nil_append]
                    clear FF NN qk
                    k_steps
                    apply Mine.foldings (vs := Array.toList yw) (ws := wordsTo nu sgS otS 5)
                    ((case B | F | X | T => k_asm); (case hk => with_unfolding_all rfl); (case hd | hu => first | omega | decide | (simp only [ktrTop]; omega)))
                    case hl => exact News.isList (by with_reducible assumption) (by k_mem)
                    case hi => exact hyw
                    case hn => exact wordsTo_len _ _ _ 5
                    case hw => exact hwl
                    case hret =>
                      intro Df yf cf hf tkf hyf hkf hnf hDf
                      rename Fr G0 _ _ _ => FF
                      rename News G0 _ _ _ => NN
                      have NF := news_add FF (NN.grown hkf) hnf hDf
                      replace FF := FF.keeps hkf
                      clear NN
                      clear n7 nD1 nD2
                      (repeat (rename (_ ≠ _) ∧ _ => q9; clear q9))
                      (repeat (rename ((_ ≠ _) ∧ _) ∧ _ => q9; clear q9))
                      k_steps
                      have hchk := chk_words nu hsig 5 (Nat.le_refl _)
                      have hW1 : (mx + (nu.sum.fdiv 2 + 1).fmod 6 + 1).toNat = (mx + (nu.sum.fdiv 2 + 1).fmod 6).toNat + 1 := up_nat (Int.add_nonneg (Int.le_trans (by decide) hb.1) h6.1)
                      rw [grp_rep, hW1] at hs1g
                      have hfl := folds_len (wordsTo_len nu sgS otS 5) hchk
                      apply Mine.compA2 2 (fun _ us => us = [.ref Dg1, .ref Dg2]) (fun v u => match u with | .ref a => if a = Dg1 then tk1 (mx + (nu.sum.fdiv 2 + 1).fmod 6).toNat (strOf v).cps.toList else tk2 cc (strOf v).cps.toList | _ => false) (fun v _ r => r = v)
                      ((case F₀ => k_asm); (case hsw | hL | hA | hh | hclos => with_unfolding_all rfl); (case hcell => decide); (case hkind => with_unfolding_all rfl); (case hnames => decide); (case hx | hy => with_unfolding_all rfl); (case hxy => decide); (case hz | hp => with_unfolding_all rfl); (case hs => intro _; with_unfolding_all rfl); (case hs₂ => intro _ _; with_unfolding_all rfl))
                      k_steps
                      rename News G0 _ _ _ => NI
                      refine ⟨_, _, yf, rfl, by is_list, ?sz, by k_asm, by k_asm, ?iter, ?tests, ?elt, ?rest⟩
                      case sz => rw [hyf.len_eq, sizeLine_eq]; exact Nat.le_trans (Nat.mul_le_mul_right 2 hfl.1) (by decide)
                      case iter =>
                        intro C D2 v s₂ m₂ E' hC1 hD1 hC2 hD2 hv hn hm F₂ N₂ hk₂
                        walk_at "M w"
                        exact ⟨_, [.ref Dg1, .ref Dg2], rfl, News.isList N₂ (by k_mem), Nat.le_refl 2, rfl, .inl (Heap.lt_size (NI (_, _) (by k_mem)).1), _, _, rfl, fun _ _ e => e⟩
                      case tests =>
                        intro C v us u s₂ m₂ E' hC hv hU hu hn hm1 hm2 F₂ N₂ hk₂
                        obtain ⟨f, tf, rfl, hf⟩ := strsAre_is hyf hv
                        obtain ⟨g, rfl⟩ : ∃ g, f = mkS g := ⟨_, (mkS_cps f).symm⟩
                        subst hU
                        rcases List.mem_cons.mp hu with rfl | hu
                        · have hS := signs_led (T := T1) N₂ (by intro p hp; walk_at "M tail2") hs1g
                          k_steps
                          apply Mine.taken (vs := yg1) (gs := List.replicate ((mx + (nu.sum.fdiv 2 + 1).fmod 6).toNat + 1) (10, true)) (fo := g)
                          ((case B | F | X | T => k_asm); (case hk => with_unfolding_all rfl); (case hd | hu => first | omega | decide | (simp only [ktrTop]; omega)))
                          case hl => exact News.isList N₂ (by k_mem)
                          case hi => exact hS
                          case hg => rw [List.length_replicate, ← hW1]; exact Nat.le_trans hW90 (by decide)
                          case hf => have h9 := hfl.2 _ hf; rw [mkS_len] at h9; exact Nat.le_trans h9 (by decide)
                          case hret =>
                            intro h3 tk3 hk3
                            refine wpAny_truthy_bool ⟨?_, _, _, rfl, hk3⟩
                            show _ = ite _ _ _
                            rw [if_pos rfl]; simp only [strOf, mkS_toList]; rfl
                        · rw [List.mem_singleton.mp hu] at hm2 ⊢
                          have hS := signs_led (T := T2) N₂ (by intro p hp; walk_at "M tail2") hs2g
                          k_steps
                          apply Mine.taken (vs := yg2) (gs := [(cc, true), (10, false)]) (fo := g)
                          ((case B | F | X | T => k_asm); (case hk => with_unfolding_all rfl); (case hd | hu => first | omega | decide | (simp only [ktrTop]; omega)))
                          case hl => exact News.isList N₂ (by k_mem)
                          case hi => exact hS
                          case hg => exact Nat.le_of_ble_eq_true rfl
                          case hf => have h9 := hfl.2 _ hf; rw [mkS_len] at h9; exact Nat.le_trans h9 (by decide)
                          case hret =>
                            intro h3 tk3 hk3
                            refine wpAny_truthy_bool ⟨?_, _, _, rfl, hk3⟩
                            show _ = ite _ _ _
                            rw [if_neg (Ne.symm hDg)]; simp only [strOf, mkS_toList]; rfl
                      case elt =>
                        intro C v us u s₂ m₂ E' hC hv hU hu hp hn hm1 hm2 F₂ N₂ hk₂
                        walk_at "M w"
                        exact ⟨rfl, _, _, rfl, fun _ _ e => e⟩
                      case rest =>
                        intro D c yss h' tk F N hne hDn hP
                        have hmany := many_strs (cnt := cntS cc (mx + (nu.sum.fdiv 2 + 1).fmod 6).toNat) (fun f t us hU => by rw [hU]; exact cnt_two (Ne.symm hDg) f t) hyf hP
                        clear hne hDn hP
                        k_steps
                        apply Mine.sldC (vs := yf) (us := yss.flatten) (fs := foldsOf (wordsTo nu sgS otS 5)) (cnt := cntS cc (mx + (nu.sum.fdiv 2 + 1).fmod 6).toNat)
                        case F => k_asm
                        case X => k_asm
                        case T => k_asm
                        case hk => with_unfolding_all rfl
                        case hd => decide
                        case hu => decide
                        case hl => exact News.isList (by with_reducible assumption) (by k_mem)
                        case hi => exact hyf
                        case hl2 => exact News.isList (by with_reducible assumption) (by k_mem)
                        case hi2 => exact hmany
                        case hn => exact Nat.le_trans hfl.1 (by decide)
                        case hn0 => exact folds_ne (wordsTo_len _ _ _ 5)
                        case hc => exact fun f => cntL_le _ _ _
                        case hs => exact folds_rise (wordsTo_len _ _ _ 5)
                        case hret =>
                          intro R Dl Du yl cl2 hR tkR hyl hkR hLR hRn hDn' hUn hRo hDo hUo
                          obtain ⟨c2, hUo⟩ := hUo
                          rename Fr G0 _ _ _ => FF
                          rename News G0 _ _ _ => NN
                          have FR := fr_slots FF hkR hLR
                          have NR := news_add FF (news_add FF (news_add FF (news_slots NN hkR) hUn hUo) hDn' hDo) hRn hRo
                          clear NN FF hkR hLR
                          k_steps
                          have hWd0 : 0 ≤ mx + (nu.sum.fdiv 2 + 1).fmod 6 := Int.add_nonneg (Int.le_trans (by decide) hb.1) h6.1
                          have hWd1 : mx + (nu.sum.fdiv 2 + 1).fmod 6 ≤ 1000 := Int.le_trans (Int.add_le_add hb.2 (Int.le_of_lt h6.2)) (by decide)
                          apply Mine.compE (fun v => decide (cntS cc (mx + (nu.sum.fdiv 2 + 1).fmod 6).toNat (strOf v) = 0)) (fun v y => y = v)
                          ((case F₀ => k_asm); (case hh | hclos => with_unfolding_all rfl); (case hcell => decide); (case hkind => with_unfolding_all rfl); (case hnames => decide); (case hx => with_unfolding_all rfl); (case hs => intro _; with_unfolding_all rfl))
                          k_steps
                          refine ⟨_, _, yf, rfl, by is_list, ?szl, by k_asm, by k_asm, ?testsl, ?eltl, ?restl⟩
                          case szl => rw [hyf.len_eq, sizeLine_eq]; exact Nat.le_trans hfl.1 (by decide)
                          case testsl =>
                            intro C v s₂ m₂ E' hC hv hn hm F₂ N₂ hk₂
                            obtain ⟨f, tf, rfl, hf⟩ := strsAre_is hyf hv
                            have hfo := folds_ok (wordsTo_len nu sgS otS 5) hchk hf
                            k_steps
                            apply Mine.fits
                            ((case B | F | X | T => k_asm); (case hk => with_unfolding_all rfl); (case hd | hu => first | omega | decide | (simp only [ktrTop]; omega)))
                            case hfo => exact Nat.le_trans (hfl.2 _ hf) (by decide)
                            case hok => exact hfo.1
                            case hne1 => exact hfo.2
                            case hsg => exact hs1
                            case hW0 => exact hWd0
                            case hW1 => exact hWd1
                            case hret =>
                              intro h3 tk3 hk3
                              refine wpAny_truthy_bool ⟨?_, _, _, rfl, hk3⟩
                              show fitsB f sgS _ = decide (cntS cc _ f = 0)
                              rw [← folds_fit (wordsTo_len nu sgS otS 5) hchk hf, ← hcs, Int.toNat_of_nonneg hWd0]
                          case eltl =>
                            intro C v s₂ m₂ E' hC hv hp hn hm F₂ N₂ hk₂
                            obtain ⟨f, tf, rfl, hf⟩ := strsAre_is hyf hv
                            walk_at "M w"
                            exact ⟨rfl, _, _, rfl, fun _ _ e => e⟩
                          case restl =>
                            intro D3 c3 ys3 h3 tk3 F3 N3 hne3 hk3 hDn3 hP3
                            have ey := paired_eq hP3
                            subst ey
                            clear hP3 hne3 hDn3 hk3
                            have hA1 := strsAre_filter (fun v => decide (cntS cc (mx + (nu.sum.fdiv 2 + 1).fmod 6).toNat (strOf v) = 0)) (fun f => decide (cntS cc (mx + (nu.sum.fdiv 2 + 1).fmod 6).toNat f = 0)) (fun _ _ => rfl) hyf
                            have hO : OkStrs ((foldsOf (wordsTo nu sgS otS 5)).filter (fun f => decide (cntS cc (mx + (nu.sum.fdiv 2 + 1).fmod 6).toNat f = 0))) := fun x hx => (folds_ok (wordsTo_len nu sgS otS 5) hchk (List.mem_filter.mp hx).1).1
                            have hq : (!decide ((foldsOf (wordsTo nu sgS otS 5)).filter (fun f => decide (cntS cc (mx + (nu.sum.fdiv 2 + 1).fmod 6).toNat f = 0)) = (foldsOf (wordsTo nu sgS otS 5)).filter (fun f => decide (cntS cc (mx + (nu.sum.fdiv 2 + 1).fmod 6).toNat f = 0)))) = false := by simp
                            refine Mine.ne_strs (by is_list) (by is_list) hyl hA1 hO hO (by ke_room) ?_
                            rw [hq]
                            k_steps
                            obtain ⟨w0, rst, hwr, Lf, hLf, hLlt⟩ := folds_last (cc := cc) (W := (mx + (nu.sum.fdiv 2 + 1).fmod 6).toNat) (wordsTo_len nu sgS otS 5) hchk (hcs ▸ hmx) (up_to hb.1 h6.1)
                            have hc2 : cc = 59 ∨ cc = 44 := sig_cc hsig hcs
                            rw [hcs]
                            apply Mine.writtenC (vs := Array.toList yw) (ws := wordsTo nu sgS otS 5) (w0 := w0) (rest := rst)
                            case B => k_asm
                            case F => k_asm
                            case X => k_asm
                            case T => k_asm
                            case hk => with_unfolding_all rfl
                            case hd => decide
                            case hu => decide
                            case hl => exact News.isList (by with_reducible assumption) (by k_mem)
                            case hi => exact hyw
                            case hwr => exact hwr
                            case hn => exact wordsTo_len _ _ _ 5
                            case hc => exact hchk
                            case hcc => exact hc2
                            case hW0 => exact hWd0
                            case hW1 => exact hWd1
                            case hg => exact hAB
                            case N =>
                              rename News G0 _ _ _ => NN
                              exact fun p hp => NN p (by rcases List.mem_cons.mp hp with rfl | hp; k_mem; rw [List.mem_singleton.mp hp]; k_mem)
                            case C1 => assumption
                            case C2 => assumption
                            case hret =>
                              intro tw hw tkw gw dw ps1 ps2 hABw hkw hp1 hp2
                              rename Fr G0 _ _ _ => FF
                              rename News G0 _ _ _ => NN
                              have FW := after_two FF NN (by k_mem) (by k_mem) hkw
                              have NW := news_five (a := Dl) (b := s₁.heap.objs.size + 1 + 1 + 1 + 1) NN (by k_mem) (by k_mem) (by k_mem) hkw (by k_mem) (by intro e; cases e) (by k_mem) (by with_reducible assumption) hp1 hp2
                              clear FF NN hkw
                              generalize hZ : mkS (splitText (wr cc (mx + (nu.sum.fdiv 2 + 1).fmod 6).toNat 0 [w0] rst)) = Z
                              k_steps
                              apply Mine.compA (fun _ => true) (fun v y => ∃ t, y = .int (b2i (decide ((strOf v).cps.toList < Z.cps.toList)) - b2i (decide (Z.cps.toList < (strOf v).cps.toList))) t)
                              ((case F₀ => k_asm); (case hsw | hL | hh | hclos => with_unfolding_all rfl); (case hcell => decide); (case hkind => with_unfolding_all rfl); (case hnames => decide); (case hx | hy | hp => with_unfolding_all rfl); (case hs => intro _; with_unfolding_all rfl))
                              k_steps
                              refine ⟨_, _, yl, rfl, by is_list, ?szw, by k_asm, by k_asm, ?testsw, ?eltw, ?restw⟩
                              case szw => rw [hyl.len_eq, sizeLine_eq]; exact Nat.le_trans (List.length_filter_le _ _) (Nat.le_trans hfl.1 (by decide))
                              case testsw =>
                                intro C v s₂ m₂ E' hC hv hn hm F₂ N₂ hk₂
                                exact wpAny_pure ⟨rfl, _, _, rfl, fun _ _ e => e⟩
                              case eltw =>
                                intro C v s₂ m₂ E' hC hv hp hn hm F₂ N₂ hk₂
                                obtain ⟨f, tf, rfl, hf⟩ := strsAre_is hyl hv
                                k_steps
                                apply Mine.three_way
                                ((case B | F | X | T => k_asm); (case hk => with_unfolding_all rfl); (case hd | hu => first | omega | decide | (simp only [ktrTop]; omega)))
                                case hret =>
                                  intro t3 h3 tk3 hk3
                                  exact ⟨⟨_, rfl⟩, _, _, rfl, hk3⟩
                              case restw =>
                                intro D4 c4 ys4 h4 tk4 F4 N4 hne4 hk4 hP4
                                rw [List.filter_eq_self.mpr (fun _ _ => rfl)] at hP4
                                have hT4 := ints_of_tells hyl hP4
                                k_steps
                                apply Mine.compE (fun _ => false) (fun v y => y = v)
                                ((case F₀ => k_asm); (case hh | hclos => with_unfolding_all rfl); (case hcell => decide); (case hkind => with_unfolding_all rfl); (case hnames => decide); (case hx => with_unfolding_all rfl); (case hs => intro _; with_unfolding_all rfl))
                                k_steps
                                refine ⟨_, _, ys4, rfl, by is_list, ?szi, by k_asm, by k_asm, ?testsi, ?elti, ?resti⟩
                                case szi => rw [hT4.length, List.length_map, sizeLine_eq]; exact Nat.le_trans (List.length_filter_le _ _) (Nat.le_trans hfl.1 (by decide))
                                case testsi =>
                                  intro C v s₂ m₂ E' hC hv hn hm F₂ N₂ hk₂
                                  obtain ⟨x, t, rfl, hx⟩ := intsAre_is hT4 hv
                                  k_steps
                                  all_goals exact ⟨_, _, rfl, fun _ _ e => e⟩
                                case elti =>
                                  intro C v s₂ m₂ E' hC hv hp hn hm F₂ N₂ hk₂
                                  cases hp
                                case resti =>
                                  intro D5 c5 ys5 h5 tk5 F5 N5 hne5 hk5 hDn5 hP5
                                  rw [List.filter_eq_nil_iff.mpr (fun _ _ h => by cases h)] at hP5
                                  cases hP5
                                  have hyll : yl.length = Lf.length + 1 := by rw [hyl.len_eq, hLf, List.length_append]; rfl
                                  have hT5 : IntsAre ys4 (List.replicate Lf.length 1 ++ [0]) := by
                                    rw [hLf, ← hZ, told_are hLlt] at hT4
                                    exact hT4
                                  have hL16 : Lf.length ≤ 16 := by
                                    have h9 : ((foldsOf (wordsTo nu sgS otS 5)).filter (fun f => decide (cntS cc (mx + (nu.sum.fdiv 2 + 1).fmod 6).toNat f = 0))).length ≤ 16 := Nat.le_trans (List.length_filter_le _ _) hfl.1
                                    rw [hLf, List.length_append] at h9
                                    exact Nat.le_trans (Nat.le_add_right _ _) h9
                                  iterate 3 walk_at "M w"
                                  refine Mine.ne_strs (by is_list) (by is_list) .nil .nil .nil .nil (by ke_room) ?_
                                  rw [show (!decide (([] : List Str) = [])) = false from rfl]
                                  iterate 22 walk_at "M w"
                                  refine kun_lenL (k := ((Lf.length : Int) + 1)) (by is_list) (by rw [List.size_toArray, hyll]; rfl) (small16 hL16) ?_
                                  walk_at "M w"
                                  refine sub_int ?_
                                  rw [Int.add_sub_cancel]
                                  refine KM.mul (vs := [_]) (ns := [1]) (by k_asm) (by k_asm) (by is_list) (.cons 1 _ .nil) (low16 _) (high16 hL16) (size16 hL16) ?_
                                  intro Dm hm5 Fm5 Nm5 lm5 im5 _ _ _ _ _
                                  rw [Int.toNat_natCast, flat1] at im5
                                  iterate 5 walk_at "M w"
                                  refine kmk_add_ints (by k_asm) (by k_asm) (by is_list) (by is_list) im5 (.cons 0 _ .nil) ?_ (sum16 hL16)
                                  intro Da usa ha5 Fa5 Na5 la5 ia5
                                  refine eq_intsK (by is_list) hT5 (by is_list) ia5 (by ke_room) ?_
                                  rw [decide_eq_true rfl]
                                  dsimp only
                                  refine ⟨⟨?fin, hABw⟩, ?grown⟩
                                  case grown => walk_at "GrownAll"
                                  case fin =>
                                    refine goodW_bool (by k_asm) rfl (raisesW_false ?_) ?_
                                    · wrow_none_raised
                                    · kc_post
end
end Mine
theorem PySem.Challenge.cw_ik0127_01_holds : PySem.Challenge.rw_ik0127_01.Holds := by
  exact Mine.law_holds
