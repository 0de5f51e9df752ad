/-
  One byte, whatever the state; a new scanner; the end of the text.
-/
import Derived.Test.YtlmhpmbgalmpgaaGreatDoorSc6
namespace Go.Proofs.YtlmhpmbgalmpgaaGreatDoor
open Go.RowKit

/-- What holds of the machine at all times. -/
def Js.WF (m : Js.M) : Prop := (m.bad = true → m.st = .err) ∧ (m.st = .bsoe → m.stk ≠ []) ∧ (m.st = .err → m.bad = true)
def Js.Ok (st : Js.St) : Prop := st ≠ .bsoe ∧ st ≠ .err

theorem Js.wf_init : Js.WF Js.init := ⟨nofun, nofun, nofun⟩
theorem Js.wf_fail (m : Js.M) : Js.WF (Js.fail m).1 := ⟨fun _ => rfl, nofun, fun _ => rfl⟩
theorem Js.wf_of {m : Js.M} (hb : m.bad = false) (hs : Js.Ok m.st) : Js.WF m := ⟨fun h => (nomatch (hb.symm.trans h : false = true)), fun h => absurd h hs.1, fun h => absurd h hs.2⟩
theorem Js.wf_to {m : Js.M} (hb : m.bad = false) (st : Js.St) (n : Nat) (h : Js.Ok st) : Js.WF (Js.to m st n).1 := Js.wf_of (m := { m with st := st }) hb h
theorem Js.wf_push {m : Js.M} (hb : m.bad = false) (p : Js.Ps) (st : Js.St) (n : Nat) (hs : st ≠ .err) : Js.WF (Js.push m p st n).1 := by
  unfold Js.push
  split
  · exact ⟨fun hb' => (nomatch (hb.symm.trans hb' : false = true)), fun _ => nofun, fun h => absurd h hs⟩
  · exact Js.wf_fail _
theorem Js.wf_et {m : Js.M} (hb : m.bad = false) (hs : Js.Ok m.st) (c : Nat) : Js.WF (Js.stEt m c).1 := by
  unfold Js.stEt
  split
  · exact Js.wf_of hb hs
  · exact Js.wf_fail m
theorem Js.pop_st {m : Js.M} (hs : m.stk ≠ []) : Js.Ok (Js.pop m).st ∧ (Js.pop m).bad = m.bad := by
  unfold Js.pop
  split
  · contradiction
  · exact ⟨⟨nofun, nofun⟩, rfl⟩
  · exact ⟨⟨nofun, nofun⟩, rfl⟩
theorem Js.wf_ev {m : Js.M} (hb : m.bad = false) (_hs : Js.Ok m.st) (c : Nat) : Js.WF (Js.stEv m c).1 := by
  unfold Js.stEv
  split
  · exact Js.wf_et (m := { m with st := .et, top := true }) hb ⟨nofun, nofun⟩ c
  · rename_i p S hS
    have hp := Js.pop_st (m := m) (by rw [hS]; nofun)
    split
    · exact Js.wf_of hb ⟨nofun, nofun⟩
    · split
      · split
        · exact Js.wf_of hb ⟨nofun, nofun⟩
        · exact Js.wf_fail m
      · split
        · exact Js.wf_of hb ⟨nofun, nofun⟩
        · split
          · exact Js.wf_of (hp.2.trans hb) hp.1
          · exact Js.wf_fail m
      · split
        · exact Js.wf_of hb ⟨nofun, nofun⟩
        · split
          · exact Js.wf_of (hp.2.trans hb) hp.1
          · exact Js.wf_fail m
theorem Js.wf_bv {m : Js.M} (hb : m.bad = false) (hs : Js.Ok m.st) (c : Nat) : Js.WF (Js.stBv m c).1 := by
  unfold Js.stBv
  repeat' split
  all_goals first | exact Js.wf_of hb hs | exact Js.wf_push hb _ _ _ (by nofun) | exact Js.wf_fail m | exact Js.wf_to hb _ _ ⟨nofun, nofun⟩
theorem Js.wf_bs {m : Js.M} (h : Js.WF m) (hb : m.bad = false) (c : Nat) : Js.WF (Js.stBs m c).1 := by
  unfold Js.stBs
  repeat' split
  all_goals first | exact h | exact Js.wf_fail m | exact Js.wf_to hb _ _ ⟨nofun, nofun⟩
theorem Js.ev_st (m : Js.M) (st : Js.St) (c : Nat) (hb : m.bad = false) (hst : Js.Ok st) : Js.WF (Js.stEv m c).1 := by
  have h := Js.wf_ev (m := { m with st := st }) hb hst c
  unfold Js.stEv at h ⊢
  cases hS : m.stk with
  | nil => rw [hS] at h; exact h
  | cons p S =>
    rw [hS] at h
    have hp : Js.WF (Js.pop m) := by
      have hp := Js.pop_st (m := m) (by rw [hS]; nofun)
      exact Js.wf_of (hp.2.trans hb) hp.1
    cases p <;> dsimp only at h ⊢ <;> (repeat' split) <;> first | exact Js.wf_fail m | exact hp | exact Js.wf_of hb ⟨nofun, nofun⟩

theorem Js.wf_step {m : Js.M} (h : Js.WF m) (c : Nat) : Js.WF (Js.step m c).1 := by
  by_cases hb : m.bad = true
  · have hs := h.1 hb
    rw [Js.step_bad m hb hs]
    exact h
  have hb : m.bad = false := by simpa using hb
  unfold Js.step Js.stN0 Js.stESign Js.is
  split
  all_goals rename_i hst
  all_goals (repeat' split)
  all_goals first
    | exact h
    | exact Js.wf_fail m
    | exact Js.wf_to hb _ _ ⟨nofun, nofun⟩
    | exact Js.ev_st m .ev _ hb ⟨nofun, nofun⟩
    | exact Js.wf_et hb (by rw [hst]; exact ⟨nofun, nofun⟩) _
    | exact Js.wf_bv hb (by rw [hst]; exact ⟨nofun, nofun⟩) _
    | exact Js.wf_bs h hb _
    | (refine Js.ev_st _ .ev _ ?_ ⟨nofun, nofun⟩; unfold Js.setVal; split <;> exact hb)

theorem Js.wf_run (l : List UInt8) : ∀ m : Js.M, Js.WF m → Js.WF (Js.run m l) := by
  induction l with
  | nil => intro m h; exact h
  | cons c l ih => intro m h; rw [Js.run_cons]; exact ih _ (Js.wf_step h _)

theorem Js.n_ev (m : Js.M) (c : Nat) (h : (Js.stEv m c).2 = 11) : (Js.stEv m c).1.bad = true := by
  unfold Js.stEv Js.stEt at h ⊢
  split at h
  · split at h <;> cases h
  · rename_i p S hS
    split at h
    · cases h
    · rename_i hsp
      rw [if_neg hsp]
      cases p <;> (dsimp only at h ⊢; repeat' (split at h)) <;> first | (cases h; done) | (simp only [*]; rfl)

def Js.G (r : Js.M × Nat) : Prop := r.2 = 11 → r.1.bad = true
theorem Js.g_fail (m : Js.M) : Js.G (Js.fail m) := fun _ => rfl
theorem Js.g_push (m : Js.M) (p : Js.Ps) (st : Js.St) (n : Nat) (hn : n ≠ 11) : Js.G (Js.push m p st n) := by
  unfold Js.push
  split
  · exact fun h => absurd h hn
  · exact Js.g_fail _
theorem Js.g_bv (m : Js.M) (c : Nat) : Js.G (Js.stBv m c) := by
  unfold Js.stBv Js.to
  repeat' split
  all_goals first | exact Js.g_fail m | exact Js.g_push _ _ _ _ (by decide) | exact nofun
theorem Js.g_bs (m : Js.M) (c : Nat) : Js.G (Js.stBs m c) := by
  unfold Js.stBs Js.to
  repeat' split
  all_goals first | exact Js.g_fail m | exact nofun

/-- A refused byte. -/
theorem Js.step_11 {m : Js.M} (h : Js.WF m) (c : Nat) : Js.G (Js.step m c) := by
  by_cases hb : m.bad = true
  · rw [Js.step_bad m hb (h.1 hb)]
    exact fun _ => hb
  unfold Js.step Js.stN0 Js.stESign Js.is Js.to
  split
  all_goals (repeat' split)
  all_goals first
    | exact Js.g_fail m
    | exact Js.g_bv _ _
    | exact Js.g_bs _ _
    | exact Js.n_ev _ _
    | (rename_i hst; exact fun _ => h.2.2 hst)
    | (intro h'; cases h'; done)
    | (unfold Js.stEt; split <;> (intro h'; cases h'))

/-- Behind a refused byte nothing is accepted. -/
theorem Js.acc_refused {l : List UInt8} {k : Nat} (hk : k < l.length) (he : (Js.step (Js.run Js.init (l.take k)) l[k].toNat).2 = 11) : Js.acc Js.init l = false := by
  have hw := Js.wf_run (l.take k) _ Js.wf_init
  have hb := Js.step_11 hw _ he
  have hs := (Js.wf_step hw l[k].toNat).1 hb
  have e : l = l.take k ++ l[k] :: l.drop (k + 1) := by simp
  unfold Js.acc
  rw [e, Js.run_append, Js.run_cons]
  exact Js.acc_bad _ hb hs _

theorem Js.run_snoc {l : List UInt8} {k : Nat} (hk : k < l.length) (m : Js.M) : Js.run m (l.take (k + 1)) = (Js.step (Js.run m (l.take k)) l[k].toNat).1 := by
  rw [List.take_succ_eq_append_getElem hk, Js.run_append]
  rfl

theorem escP_eq (m : Js.M) (c : Int) (h0 : 0 ≤ c) (h : m.st = .esc) : escP m c = Js.step m c.toNat := by
  unfold escP Js.step; rw [h]; simp only [tn h0]; rfl

section
variable {m : Js.M} {c : Int} (h0 : 0 ≤ c)
include h0

theorem lt_iff : (c.toNat < 32) = (c < 32) := propext (by omega)

theorem n0P_eq : n0P m c = Js.stN0 m c.toNat := by unfold n0P Js.stN0; simp only [tn h0]; rfl
theorem bvP_eq : bvP m c = Js.stBv m c.toNat := by unfold bvP Js.stBv; simp only [tn h0, spI_sp c h0, dgI_dig c h0]; rfl
theorem bsP_eq : bsP m c = Js.stBs m c.toNat := by unfold bsP Js.stBs; simp only [tn h0, spI_sp c h0]; rfl
theorem esP_eq : esP m c = Js.stESign m c.toNat := by unfold esP Js.stESign; simp only [dgI_dig c h0]
end

/-- ONE BYTE, WHATEVER THE STATE. -/
theorem step_any (g : Nat) (m : Js.M) (hm : Js.WF m) (c : Int) (h0 : 0 ≤ c) (h1 : c ≤ 255) (w : World) (h : Sc w g m) :
    Calls Tryz.prog (fnOf m.st) #[.pointer (some ⟨g, 0, none⟩), .int .u8 c] w (After g w (Js.step m c.toNat)) := by
  have hb : m.st ≠ .err → m.bad = false := by
    intro hs
    cases hb : m.bad with
    | false => rfl
    | true => exact absurd (hm.1 hb) hs
  have key : ∀ (r r' : Js.M × Nat) (k : Nat), r = r' → Calls Tryz.prog k #[.pointer (some ⟨g, 0, none⟩), .int .u8 c] w (After g w r) → Calls Tryz.prog k #[.pointer (some ⟨g, 0, none⟩), .int .u8 c] w (After g w r') := fun r r' k e x => e ▸ x
  cases hst : m.st with
  | bvoe => exact key _ _ _ (by unfold bvoeP Js.step; rw [hst, bvP_eq h0]; simp only [spI_sp c h0, tn h0]; rfl) (st_bvoe g m c h0 h1 (hb (by rw [hst]; intro h; cases h)) w h)
  | bv => exact key _ _ _ (by unfold Js.step; rw [hst, bvP_eq h0]) (st_bv g m c h0 h1 (hb (by rw [hst]; intro h; cases h)) w h)
  | bsoe => exact key _ _ _ (by unfold bsoeP Js.step; rw [hst, bsP_eq h0]; simp only [spI_sp c h0, tn h0]; rfl) (st_bsoe g m (hm.2.1 hst) c h0 h1 w h)
  | bs => exact key _ _ _ (by unfold Js.step; rw [hst, bsP_eq h0]) (st_bs g m c h0 h1 w h)
  | ev => exact key _ _ _ (by unfold Js.step; rw [hst]) (st_ev g m c h0 h1 w h)
  | et => exact key _ _ _ (by unfold Js.step; rw [hst]) (st_et g m c h0 h1 w h)
  | str => exact key _ _ _ (by unfold Js.step; rw [hst]; simp only [tn h0, lt_iff h0]; rfl) (st_str g m c h0 h1 w h)
  | esc => exact key _ _ _ (escP_eq m c h0 hst) (st_esc g m c h0 h1 w h)
  | u0 => exact key _ _ _ (by unfold Js.step; rw [hst]; simp only [hxI_hex c h0]) (st_u0 g m c h0 h1 w h)
  | u1 => exact key _ _ _ (by unfold Js.step; rw [hst]; simp only [hxI_hex c h0]) (st_u1 g m c h0 h1 w h)
  | u2 => exact key _ _ _ (by unfold Js.step; rw [hst]; simp only [hxI_hex c h0]) (st_u2 g m c h0 h1 w h)
  | u3 => exact key _ _ _ (by unfold Js.step; rw [hst]; simp only [hxI_hex c h0]) (st_u3 g m c h0 h1 w h)
  | neg => exact key _ _ _ (by unfold negP Js.step; rw [hst]; simp only [tn h0, dgI_dig c h0]; rfl) (st_neg g m c h0 h1 w h)
  | n1 => exact key _ _ _ (by
      have e : Js.to m .n1 0 = (m, 0) := by unfold Js.to; rw [← hst]
      unfold n1P Js.step; rw [hst, n0P_eq h0, e]; simp only [dgI_dig c h0]) (st_n1 g m c h0 h1 w h)
  | n0 => exact key _ _ _ (by unfold Js.step; rw [hst, n0P_eq h0]) (st_n0 g m c h0 h1 w h)
  | dot => exact key _ _ _ (by unfold Js.step; rw [hst]; simp only [dgI_dig c h0]) (st_dot g m c h0 h1 w h)
  | dot0 => exact key _ _ _ (by unfold dot0P Js.step; rw [hst]; simp only [dgI_dig c h0, tn h0]; rfl) (st_dot0 g m c h0 h1 w h)
  | e => exact key _ _ _ (by unfold eP Js.step; rw [hst, esP_eq h0]; simp only [tn h0]; rfl) (st_e g m c h0 h1 w h)
  | esign => exact key _ _ _ (by unfold Js.step; rw [hst, ← esP_eq h0]; rfl) (st_esign g m c h0 h1 w h)
  | e0 => exact key _ _ _ (by unfold e0P Js.step; rw [hst]; simp only [dgI_dig c h0]) (st_e0 g m c h0 h1 w h)
  | t => exact key _ _ _ (by unfold Js.step Js.is; rw [hst]; simp only [tn h0]; rfl) (st_t g m c h0 h1 w h)
  | tr => exact key _ _ _ (by unfold Js.step Js.is; rw [hst]; simp only [tn h0]; rfl) (st_tr g m c h0 h1 w h)
  | tru => exact key _ _ _ (by unfold Js.step Js.is; rw [hst]; simp only [tn h0]; rfl) (st_tru g m c h0 h1 w h)
  | f => exact key _ _ _ (by unfold Js.step Js.is; rw [hst]; simp only [tn h0]; rfl) (st_f g m c h0 h1 w h)
  | fa => exact key _ _ _ (by unfold Js.step Js.is; rw [hst]; simp only [tn h0]; rfl) (st_fa g m c h0 h1 w h)
  | fal => exact key _ _ _ (by unfold Js.step Js.is; rw [hst]; simp only [tn h0]; rfl) (st_fal g m c h0 h1 w h)
  | fals => exact key _ _ _ (by unfold Js.step Js.is; rw [hst]; simp only [tn h0]; rfl) (st_fals g m c h0 h1 w h)
  | n => exact key _ _ _ (by unfold Js.step Js.is; rw [hst]; simp only [tn h0]; rfl) (st_n g m c h0 h1 w h)
  | nu => exact key _ _ _ (by unfold Js.step Js.is; rw [hst]; simp only [tn h0]; rfl) (st_nu g m c h0 h1 w h)
  | nul => exact key _ _ _ (by unfold Js.step Js.is; rw [hst]; simp only [tn h0]; rfl) (st_nul g m c h0 h1 w h)
  | err => exact key _ _ _ (by unfold Js.step; rw [hst]) (st_err g m c h0 h1 w h)

theorem callFunc_enter {P : Program} {f : FuncId} {fn : Func} (hf : P.funcs[f]? = some fn) (hname : (fn.name == "runtime.NumGoroutine") = false) (hb : fn.body.isNone = false) (args : Array Value) (w : World) :
    (callFunc f args).run P w = .ok (.enter f args) w := by
  have h1 : fn.name ≠ "runtime.NumGoroutine" := by simpa using hname
  have h2 : ¬ fn.body = none := by intro h; rw [h] at hb; cases hb
  simp [callFunc, hf, h1, h2]

/-- A state's function has a body: a call of it enters it. -/
theorem enter_step (st : Js.St) (args : Array Value) (w : World) : (callFunc (fnOf st) args).run Tryz.prog w = .ok (.enter (fnOf st) args) w := by
  cases st with
  | bvoe => exact callFunc_enter Tryz.func68 (by kernel_rfl) (by kernel_rfl) args w
  | bv => exact callFunc_enter Tryz.func61 (by kernel_rfl) (by kernel_rfl) args w
  | bsoe => exact callFunc_enter Tryz.func66 (by kernel_rfl) (by kernel_rfl) args w
  | bs => exact callFunc_enter Tryz.func80 (by kernel_rfl) (by kernel_rfl) args w
  | ev => exact callFunc_enter Tryz.func79 (by kernel_rfl) (by kernel_rfl) args w
  | et => exact callFunc_enter Tryz.func94 (by kernel_rfl) (by kernel_rfl) args w
  | str => exact callFunc_enter Tryz.func69 (by kernel_rfl) (by kernel_rfl) args w
  | esc => exact callFunc_enter Tryz.func81 (by kernel_rfl) (by kernel_rfl) args w
  | u0 => exact callFunc_enter Tryz.func96 (by kernel_rfl) (by kernel_rfl) args w
  | u1 => exact callFunc_enter Tryz.func105 (by kernel_rfl) (by kernel_rfl) args w
  | u2 => exact callFunc_enter Tryz.func108 (by kernel_rfl) (by kernel_rfl) args w
  | u3 => exact callFunc_enter Tryz.func109 (by kernel_rfl) (by kernel_rfl) args w
  | neg => exact callFunc_enter Tryz.func70 (by kernel_rfl) (by kernel_rfl) args w
  | n1 => exact callFunc_enter Tryz.func75 (by kernel_rfl) (by kernel_rfl) args w
  | n0 => exact callFunc_enter Tryz.func71 (by kernel_rfl) (by kernel_rfl) args w
  | dot => exact callFunc_enter Tryz.func82 (by kernel_rfl) (by kernel_rfl) args w
  | dot0 => exact callFunc_enter Tryz.func97 (by kernel_rfl) (by kernel_rfl) args w
  | e => exact callFunc_enter Tryz.func83 (by kernel_rfl) (by kernel_rfl) args w
  | esign => exact callFunc_enter Tryz.func98 (by kernel_rfl) (by kernel_rfl) args w
  | e0 => exact callFunc_enter Tryz.func106 (by kernel_rfl) (by kernel_rfl) args w
  | t => exact callFunc_enter Tryz.func72 (by kernel_rfl) (by kernel_rfl) args w
  | tr => exact callFunc_enter Tryz.func84 (by kernel_rfl) (by kernel_rfl) args w
  | tru => exact callFunc_enter Tryz.func99 (by kernel_rfl) (by kernel_rfl) args w
  | f => exact callFunc_enter Tryz.func73 (by kernel_rfl) (by kernel_rfl) args w
  | fa => exact callFunc_enter Tryz.func85 (by kernel_rfl) (by kernel_rfl) args w
  | fal => exact callFunc_enter Tryz.func100 (by kernel_rfl) (by kernel_rfl) args w
  | fals => exact callFunc_enter Tryz.func107 (by kernel_rfl) (by kernel_rfl) args w
  | n => exact callFunc_enter Tryz.func74 (by kernel_rfl) (by kernel_rfl) args w
  | nu => exact callFunc_enter Tryz.func86 (by kernel_rfl) (by kernel_rfl) args w
  | nul => exact callFunc_enter Tryz.func101 (by kernel_rfl) (by kernel_rfl) args w
  | err => exact callFunc_enter Tryz.func87 (by kernel_rfl) (by kernel_rfl) args w

/-- The same at a byte of a text. -/
theorem step_byte (g : Nat) (m : Js.M) (hm : Js.WF m) (c : UInt8) (w : World) (h : Sc w g m) :
    Calls Tryz.prog (fnOf m.st) #[.pointer (some ⟨g, 0, none⟩), .int .u8 (c.toNat : Int)] w (After g w (Js.step m c.toNat)) := by
  have := step_any g m hm (c.toNat : Int) (by omega) (by have := c.toNat_lt; omega) w h
  rw [Int.toNat_natCast] at this
  exact this

end Go.Proofs.YtlmhpmbgalmpgaaGreatDoor
