import JvmDerived
import JvmDerived.Pilot.@@N@@Statement
import JvmDerived.Pilot.@@N@@Code
set_option linter.unusedVariables false
set_option linter.unusedSimpArgs false
namespace Jvm.RoadKit
open Sem ClassFile Op Lib Jvm.Stand Jvm.Free Jvm.LawKit
section Own
/-- from here the run comes to an end of which P holds -/
def own_Go (p : Program) (e : Env) (below : List Frame) (P : Outcome → State → Prop) (t : State) : Prop :=
  ∃ s₂ o, Steps p.tables e below t s₂ ∧ s₂.status = .running ∧ Ended s₂ below o ∧ P o s₂
variable {p : Program} {l : Launch} {e : Env} {R : Room} {s : State} {m : MethodId} {args : Array Value} {below : List Frame} {meth : Method} {c : Code} {T : State} {locs : List Loc} {cells slots : Nat}
theorem own_Go.st {P : Outcome → State → Prop} {t t' : State} (h : ∀ target, Steps p.tables e below t' target → Steps p.tables e below t target) (k : own_Go p e below P t') : own_Go p e below P t := by
  obtain ⟨a, b, h1, h2⟩ := k
  exact ⟨a, b, h _ h1, h2⟩
variable {C N : Nat} {Q : Option Value → Heap → List Loc → Prop}
theorem own_ret {v : Option Value} {g : JFrame} (X : Stand p l e R s m args below meth c T locs cells slots) (hlk : meth.locks = false) (hv : meth.sig.returnType = none → v = none)
    (hl : ∀ fs : List Frame, (∀ (f : JFrame) (acts : List Action), f.method = m → f.locked = none → f.entered = [] → (doReturn e (T.setTop f) acts v).1 = T.setFrames fs) → Steps p.tables e below (T.setTop g) (T.setFrames fs))
    (hc : cells ≤ C) (hn : slots ≤ N) (q : Q v T.heap locs) : own_Go p e below (fun o U' => ∃ v L, o = .returned v ∧ Q v U'.heap L ∧ FrameEnd s o U' L C N) (T.setTop g) := by
  obtain ⟨fs, hr, hrun, hended, hW, hsame⟩ := X.leave (v := v) hv hlk
  exact ⟨_, _, hl fs hr, hrun, hended, _, _, rfl, q, ⟨_, rfl⟩, hW, hsame.mono hc hn⟩
theorem own_retI {pc : Nat} {Ls : Array Slot} {z : Int32} {rest : List Value} (X : Stand p l e R s m args below meth c T locs cells slots) (hx : p.tables.exec = Jvm.exec) (hlk : meth.locks = false) (hret : meth.sig.returnType = some .int) (hd : decode c.code pc = .ok (.ireturn, 1))
    (hc : cells ≤ C) (hn : slots ≤ N) (q : Q (some (.int z)) T.heap locs) : own_Go p e below (fun o U' => ∃ v L, o = .returned v ∧ Q v U'.heap L ∧ FrameEnd s o U' L C N) (T.setTop (mkF m pc Ls (.int z :: rest))) :=
  own_ret X hlk (fun h => by rw [hret] at h; cases h) (fun fs hr => retOut X hx hret rfl (Or.inl ⟨rfl, Or.inl rfl, z, rfl⟩) hd hr) hc hn q
theorem own_retN {t : FieldType} {pc : Nat} {Ls : Array Slot} {z : Int32} {rest : List Value} (X : Stand p l e R s m args below meth c T locs cells slots) (hx : p.tables.exec = Jvm.exec) (hlk : meth.locks = false) (hret : meth.sig.returnType = some t) (ht : t = .boolean ∨ t = .byte ∨ t = .char ∨ t = .short) (hz : nar t z = z) (hd : decode c.code pc = .ok (.ireturn, 1))
    (hc : cells ≤ C) (hn : slots ≤ N) (q : Q (some (.int z)) T.heap locs) : own_Go p e below (fun o U' => ∃ v L, o = .returned v ∧ Q v U'.heap L ∧ FrameEnd s o U' L C N) (T.setTop (mkF m pc Ls (.int z :: rest))) :=
  own_ret X hlk (fun h => by rw [hret] at h; cases h) (fun fs hr => retN X hx (z := z) hret ht hd (by rw [hz]; exact hr)) hc hn q
theorem own_retZ {pc : Nat} {Ls : Array Slot} {z : Int32} {rest : List Value} (X : Stand p l e R s m args below meth c T locs cells slots) (hx : p.tables.exec = Jvm.exec) (hlk : meth.locks = false) (hret : meth.sig.returnType = some .boolean) (hz : z = 0 ∨ z = 1) (hd : decode c.code pc = .ok (.ireturn, 1))
    (hc : cells ≤ C) (hn : slots ≤ N) (q : Q (some (.int z)) T.heap locs) : own_Go p e below (fun o U' => ∃ v L, o = .returned v ∧ Q v U'.heap L ∧ FrameEnd s o U' L C N) (T.setTop (mkF m pc Ls (.int z :: rest))) :=
  own_retN X hx hlk hret (Or.inl rfl) (by rcases hz with rfl | rfl <;> rfl) hd hc hn q
theorem own_retJ {pc : Nat} {Ls : Array Slot} {z : Int64} {rest : List Value} (X : Stand p l e R s m args below meth c T locs cells slots) (hx : p.tables.exec = Jvm.exec) (hlk : meth.locks = false) (hret : meth.sig.returnType = some .long) (hd : decode c.code pc = .ok (.lreturn, 1))
    (hc : cells ≤ C) (hn : slots ≤ N) (q : Q (some (.long z)) T.heap locs) : own_Go p e below (fun o U' => ∃ v L, o = .returned v ∧ Q v U'.heap L ∧ FrameEnd s o U' L C N) (T.setTop (mkF m pc Ls (.long z :: rest))) :=
  own_ret X hlk (fun h => by rw [hret] at h; cases h) (fun fs hr => retOut X hx hret rfl (Or.inr (Or.inl ⟨rfl, rfl, z, rfl⟩)) hd hr) hc hn q
theorem own_retD {pc : Nat} {Ls : Array Slot} {z : UInt64} {rest : List Value} (X : Stand p l e R s m args below meth c T locs cells slots) (hx : p.tables.exec = Jvm.exec) (hlk : meth.locks = false) (hret : meth.sig.returnType = some .double) (hd : decode c.code pc = .ok (.dreturn, 1))
    (hc : cells ≤ C) (hn : slots ≤ N) (q : Q (some (.double z)) T.heap locs) : own_Go p e below (fun o U' => ∃ v L, o = .returned v ∧ Q v U'.heap L ∧ FrameEnd s o U' L C N) (T.setTop (mkF m pc Ls (.double z :: rest))) :=
  own_ret X hlk (fun h => by rw [hret] at h; cases h) (fun fs hr => retOut X hx hret rfl (Or.inr (Or.inr (Or.inl ⟨rfl, rfl, z, rfl⟩))) hd hr) hc hn q
theorem own_retA {t : FieldType} {pc : Nat} {Ls : Array Slot} {w : Value} {rest : List Value} (X : Stand p l e R s m args below meth c T locs cells slots) (hx : p.tables.exec = Jvm.exec) (hlk : meth.locks = false) (hret : meth.sig.returnType = some t) (ht : t.isReference = true) (hw : w.isRef = true) (hd : decode c.code pc = .ok (.areturn, 1))
    (hc : cells ≤ C) (hn : slots ≤ N) (q : Q (some w) T.heap locs) : own_Go p e below (fun o U' => ∃ v L, o = .returned v ∧ Q v U'.heap L ∧ FrameEnd s o U' L C N) (T.setTop (mkF m pc Ls (w :: rest))) :=
  own_ret X hlk (fun h => by rw [hret] at h; cases h) (fun fs hr => retOut X hx hret (by rcases ref_cases hw with rfl | ⟨z, rfl⟩ <;> cases t <;> rfl) (Or.inr (Or.inr (Or.inr (Or.inr ⟨rfl, ht, hw⟩)))) hd hr) hc hn q
theorem own_retV {pc : Nat} {Ls : Array Slot} (X : Stand p l e R s m args below meth c T locs cells slots) (hx : p.tables.exec = Jvm.exec) (hlk : meth.locks = false) (hret : meth.sig.returnType = none) (hd : decode c.code pc = .ok (.return_, 1))
    (hc : cells ≤ C) (hn : slots ≤ N) (q : Q none T.heap locs) : own_Go p e below (fun o U' => ∃ v L, o = .returned v ∧ Q v U'.heap L ∧ FrameEnd s o U' L C N) (T.setTop (mkF m pc Ls [])) :=
  own_ret X hlk (fun _ => rfl) (fun fs hr => X.returnOut hx hret hd hr) hc hn q
theorem own_retW {vm0 : Vm} {k0 : Nat} {v : Option Value} {g : JFrame} (X : Stand p l e R (s.setVm vm0) m args below meth c T locs cells slots) (hlk : meth.locks = false) (hv : meth.sig.returnType = none → v = none) (hS : s.Since vm0 k0) (hk : k0 ≤ T.heap.size)
    (hl : ∀ fs : List Frame, (∀ (f : JFrame) (acts : List Action), f.method = m → f.locked = none → f.entered = [] → (doReturn e (T.setTop f) acts v).1 = T.setFrames fs) → Steps p.tables e below (T.setTop g) (T.setFrames fs))
    (hc : cells ≤ C) (hn : slots ≤ N) (q : Q v T.heap locs) : own_Go p e below (fun o U' => ∃ v L, o = .returned v ∧ Q v U'.heap L ∧ ReturnedEndW s o U' L C N) (T.setTop g) := by
  obtain ⟨fs, hr, hrun, hended, h1, h2, h3, h4⟩ := X.leaveW hS hk (v := v) hv hlk
  exact ⟨_, _, hl fs hr, hrun, hended, _, _, rfl, q, h1, h2, h3, h4.mono hc hn⟩
theorem own_retWV {vm0 : Vm} {k0 : Nat} {pc : Nat} {Ls : Array Slot} (X : Stand p l e R (s.setVm vm0) m args below meth c T locs cells slots) (hx : p.tables.exec = Jvm.exec) (hlk : meth.locks = false) (hret : meth.sig.returnType = none) (hS : s.Since vm0 k0) (hk : k0 ≤ T.heap.size) (hd : decode c.code pc = .ok (.return_, 1))
    (hc : cells ≤ C) (hn : slots ≤ N) (q : Q none T.heap locs) : own_Go p e below (fun o U' => ∃ v L, o = .returned v ∧ Q v U'.heap L ∧ ReturnedEndW s o U' L C N) (T.setTop (mkF m pc Ls [])) :=
  own_retW X hlk (fun _ => rfl) hS hk (fun fs hr => X.returnOut hx hret hd hr) hc hn q
theorem own_retWZ {vm0 : Vm} {k0 : Nat} {pc : Nat} {Ls : Array Slot} {z : Int32} {rest : List Value} (X : Stand p l e R (s.setVm vm0) m args below meth c T locs cells slots) (hx : p.tables.exec = Jvm.exec) (hlk : meth.locks = false) (hret : meth.sig.returnType = some .boolean) (hS : s.Since vm0 k0) (hk : k0 ≤ T.heap.size) (hz : z = 0 ∨ z = 1) (hd : decode c.code pc = .ok (.ireturn, 1))
    (hc : cells ≤ C) (hn : slots ≤ N) (q : Q (some (.int z)) T.heap locs) : own_Go p e below (fun o U' => ∃ v L, o = .returned v ∧ Q v U'.heap L ∧ ReturnedEndW s o U' L C N) (T.setTop (mkF m pc Ls (.int z :: rest))) :=
  own_retW X hlk (fun h => by rw [hret] at h; cases h) hS hk (fun fs hr => retN X hx (z := z) (t := .boolean) hret (Or.inl rfl) hd (by rw [show nar .boolean z = z by rcases hz with rfl | rfl <;> rfl]; exact hr)) hc hn q
/-- an array: its length, and what each place holds -/
def own_Ar (Z : State) (h : Heap) (a : Addr) (ty : FieldType) (n : Nat) (f : Nat → Value) : Prop := ∃ c : Cell, Arr Z h a c ty ∧ c.slots.size = n ∧ ∀ j, j < n → c.slots[j]? = some (f j)
section OwnAr
variable {Z : State} {h h' : Heap} {a b : Addr} {ty : FieldType} {n : Nat} {f f' : Nat → Value} {ws : List Addr}
theorem own_Ar.lt (F : own_Ar Z h a ty n f) : a < h.size := by obtain ⟨c, A, -⟩ := F; exact A.lt
theorem own_Ar.ext (F : own_Ar Z h a ty n f) (E : Ext h h') : own_Ar Z h' a ty n f := by obtain ⟨c, A, r⟩ := F; exact ⟨c, A.ext E, r⟩
theorem own_Ar.other {sl : Nat} {v : Value} (F : own_Ar Z h b ty n f) (W : Wr h h' a sl v) (q : b ≠ a) : own_Ar Z h' b ty n f := by obtain ⟨c, A, r⟩ := F; exact ⟨c, A.other W q, r⟩
theorem own_Ar.keep (F : own_Ar Z h a ty n f) (K : Keep h h' ws) (q : a ∉ ws) : own_Ar Z h' a ty n f := by obtain ⟨c, A, r⟩ := F; exact ⟨c, ⟨K.2.1 a c A.1 q, A.2⟩, r⟩
theorem own_Ar.congr (F : own_Ar Z h a ty n f) (q : ∀ j, j < n → f j = f' j) : own_Ar Z h a ty n f' := by obtain ⟨c, A, S, r⟩ := F; exact ⟨c, A, S, fun j hj => by rw [← q j hj]; exact r j hj⟩
theorem own_Ar.new {cA : ClassId} {z : Int32} (A : Arr Z h a (newA cA ty z) ty) (hz : z.toInt = (n : Int)) : own_Ar Z h a ty n (fun _ => defaultValue ty) := by
  have e : z.toNatClampNeg = n := by show z.toInt.toNat = n; omega
  exact ⟨_, A, by rw [sz_new, e], fun j hj => by simp [newA, e, hj]⟩
theorem own_Ar.set {i : Nat} {v : Value} (F : own_Ar Z h a ty n f) (W : Wr h h' a i v) : own_Ar Z h' a ty n (fun j => if j = i then v else f j) := by
  obtain ⟨c, A, S, r⟩ := F
  refine ⟨c.setSlot i v, A.same W, by rw [sz_set, S], fun j hj => ?_⟩
  show (c.slots.setIfInBounds i v)[j]? = _
  by_cases q : j = i
  · subst q; simp [S, hj]
  · rw [Array.getElem?_setIfInBounds_ne (Ne.symm q), r j hj]; simp [q]
theorem own_inb {c : Cell} {j : Int32} {i : Nat} (S : c.slots.size = n) (hj : j.toInt = (i : Int)) (hi : i < n) : ¬ (j < 0 ∨ c.slots.size ≤ j.toNatClampNeg) := by
  have e : j.toNatClampNeg = i := by show j.toInt.toNat = i; omega
  rw [e, S, Int32.lt_iff_toInt_lt, hj, show (0 : Int32).toInt = 0 by decide]
  omega
theorem own_clamp {j : Int32} {i : Nat} (hj : j.toInt = (i : Int)) : j.toNatClampNeg = i := by show j.toInt.toNat = i; omega
theorem own_alen (X : Stand p l e R s m args below meth c T locs cells slots) (hx : p.tables.exec = Jvm.exec) (hZ : Z.Warmed39 s.vm) (eT : T.heap = h) (F : own_Ar Z h a ty n f) {z : Int32} (hz : z.toInt = (n : Int))
    {g : JFrame} (hg : g.method = m) {rest : List Value} (hs : g.stack = .ref a :: rest) (hd : decode c.code g.pc = .ok (.arraylength, 1)) (target : State)
    (hr : Steps p.tables e below (T.setTop { g with pc := g.pc + 1, stack := .int z :: rest }) target) : Steps p.tables e below (T.setTop g) target := by
  obtain ⟨cl, A, S, -⟩ := F
  refine X.arraylength hx (by rw [eT]; exact A.1) (State.isArrayOf_alike hZ.alike A.2.1) hg hs hd target ?_
  have q : cl.slots.size.toInt32 = z := by
    rw [← Int32.toInt_inj, S, hz]
    have := z.toInt_lt
    exact len_toInt (by omega)
  rw [q]; exact hr
theorem own_dld (X : Stand p l e R s m args below meth c T locs cells slots) (hx : p.tables.exec = Jvm.exec) (hZ : Z.Warmed39 s.vm) (eT : T.heap = h) (F : own_Ar Z h a .double n f) {j : Int32} {i : Nat} (hj : j.toInt = (i : Int)) (hi : i < n) {v : Value} (hv : f i = v)
    {g : JFrame} (hg : g.method = m) {rest : List Value} (hs : g.stack = .int j :: .ref a :: rest) (hd : decode c.code g.pc = .ok (.daload, 1)) (target : State)
    (hr : Steps p.tables e below (T.setTop { g with pc := g.pc + 1, stack := v :: rest }) target) : Steps p.tables e below (T.setTop g) target := by
  obtain ⟨cl, A, S, H⟩ := F
  exact X.daload hx (by rw [eT]; exact A.1) (State.isArrayOf_alike hZ.alike A.2.1) A.2.2 (own_inb S hj hi) (by rw [own_clamp hj, H i hi, hv]) hg hs hd target hr
theorem own_lld (X : Stand p l e R s m args below meth c T locs cells slots) (hx : p.tables.exec = Jvm.exec) (hZ : Z.Warmed39 s.vm) (eT : T.heap = h) (F : own_Ar Z h a .long n f) {j : Int32} {i : Nat} (hj : j.toInt = (i : Int)) (hi : i < n) {v : Value} (hv : f i = v)
    {g : JFrame} (hg : g.method = m) {rest : List Value} (hs : g.stack = .int j :: .ref a :: rest) (hd : decode c.code g.pc = .ok (.laload, 1)) (target : State)
    (hr : Steps p.tables e below (T.setTop { g with pc := g.pc + 1, stack := v :: rest }) target) : Steps p.tables e below (T.setTop g) target := by
  obtain ⟨cl, A, S, H⟩ := F
  exact X.laload hx (by rw [eT]; exact A.1) (State.isArrayOf_alike hZ.alike A.2.1) A.2.2 (own_inb S hj hi) (by rw [own_clamp hj, H i hi, hv]) hg hs hd target hr
theorem own_dst (X : Stand p l e R s m args below meth c T locs cells slots) (hx : p.tables.exec = Jvm.exec) (hZ : Z.Warmed39 s.vm) (eT : T.heap = h) (F : own_Ar Z h a .double n f) {j : Int32} {i : Nat} (hj : j.toInt = (i : Int)) (hi : i < n) {x : UInt64}
    {g : JFrame} (hg : g.method = m) {rest : List Value} (hs : g.stack = .double x :: .int j :: .ref a :: rest) (hd : decode c.code g.pc = .ok (.dastore, 1)) :
    ∃ T' h', Stand p l e R s m args below meth c T' (locs ++ [⟨a, i⟩]) cells slots ∧ T'.heap = h' ∧ Wr h h' a i (.double x) ∧ ∀ target, Steps p.tables e below (T'.setTop { g with pc := g.pc + 1, stack := rest }) target → Steps p.tables e below (T.setTop g) target := by
  obtain ⟨cl, A, S, H⟩ := F
  have q := stD X hx hZ eT A (x := x) (own_inb S hj hi) hg hs hd
  rw [own_clamp hj] at q
  exact q
theorem own_lst (X : Stand p l e R s m args below meth c T locs cells slots) (hx : p.tables.exec = Jvm.exec) (hZ : Z.Warmed39 s.vm) (eT : T.heap = h) (F : own_Ar Z h a .long n f) {j : Int32} {i : Nat} (hj : j.toInt = (i : Int)) (hi : i < n) {x : Int64}
    {g : JFrame} (hg : g.method = m) {rest : List Value} (hs : g.stack = .long x :: .int j :: .ref a :: rest) (hd : decode c.code g.pc = .ok (.lastore, 1)) :
    ∃ T' h', Stand p l e R s m args below meth c T' (locs ++ [⟨a, i⟩]) cells slots ∧ T'.heap = h' ∧ Wr h h' a i (.long x) ∧ ∀ target, Steps p.tables e below (T'.setTop { g with pc := g.pc + 1, stack := rest }) target → Steps p.tables e below (T.setTop g) target := by
  obtain ⟨cl, A, S, H⟩ := F
  have q := stJ X hx hZ eT A (x := x) (own_inb S hj hi) hg hs hd
  rw [own_clamp hj] at q
  exact q
end OwnAr
theorem own_stakeep {Z : State} {h h' : Heap} {C n d : String} {v : Value} {ws : List Addr} (F : Sta Z h C n d v) (K : Keep h h' ws) (q : ∀ x ∈ ws, ∀ c : Cell, h[x]? = some c → c.vm.isStatics = false) : Sta Z h' C n d v := by
  obtain ⟨cf, i, k, f, st, cell, h1, h2, h3, h4, h5, h6, h7⟩ := F
  exact ⟨cf, i, k, f, st, cell, h1, h2, h3, h4, K.2.1 st cell h5 (fun hm => by rw [q st hm cell h5] at h6; cases h6), h6, h7⟩
end Own
end Jvm.RoadKit
namespace Jvm.FP.Core

section OwnDy
/-- x is finite, and worth z units of the least double -/
def own_D (x : UInt64) (z : Int) : Prop := DFin x ∧ zval b64 (val64 x) = z
theorem own_D.nn {x : UInt64} {z : Int} (h : own_D x z) : val64 x ≠ .nan := by
  obtain ⟨⟨s, c, q, e⟩, -⟩ := h
  rw [e]; exact Datum.noConfusion
theorem own_D.n64 {x : UInt64} {z : Int} (h : own_D x z) : Jvm.Free.Fl.NoNaN64 x := Jvm.Free.Fl.noNaN64_no.mpr ((notNaN_iff x).mpr h.nn)
/-- a whole number z of units that a finite double is worth -/
def own_Rep (z : Int) : Prop := ∃ V, fits b64 V ∧ (∃ s c q, V = Datum.fin s c q) ∧ zval b64 V = z
theorem own_rep (c : Int) (k : Nat) (hc : c.natAbs < 9007199254740992) (hk : k ≤ 2045) : own_Rep (c * ((2 ^ k : Nat) : Int)) := by
  obtain ⟨c', q', h1, h2⟩ := round_exact good_b64 (decide (c < 0)) (c := c.natAbs) (q := -1074 + (k : Int)) (show c.natAbs < 2 ^ 53 by omega) (by rw [qmin_b64]; omega) (show -1074 + (k : Int) ≤ b64.qmax by rw [show b64.qmax = 971 by decide]; omega)
  refine ⟨.fin (decide (c < 0)) c' q', h1 ▸ round_fits good_b64 _, ⟨_, _, _, rfl⟩, ?_⟩
  show signed (decide (c < 0)) (inUnits c' q' b64.qmin) = _
  rw [h2]
  unfold inUnits
  rw [qmin_b64, show (-1074 + (k : Int) - -1074).toNat = k by omega, signed_mul]
  congr 1
  unfold signed
  by_cases h : c < 0
  · simp [h]; omega
  · simp [h]; omega
theorem own_close {d V : Datum} (fd : fits b64 d) (nd : d ≠ .nan) (fV : fits b64 V) (hV : ∃ s c q, V = Datum.fin s c q) (e : zval b64 d = zval b64 V) : ∃ s c q, d = .fin s c q := by
  obtain ⟨s, c, q, rfl⟩ := hV
  have h1 := zmag_lt_top good_b64 fV
  cases d with
  | nan => exact absurd rfl nd
  | fin s' c' q' => exact ⟨_, _, _, rfl⟩
  | inf t =>
    exfalso
    have h2 : (zval b64 (.inf t)).natAbs = b64.tails * 2 ^ (b64.exps - 2) := natAbs_signed t _
    have h3 : (zval b64 (.fin s c q)).natAbs = inUnits c q b64.qmin := natAbs_signed s _
    rw [e, h3] at h2
    omega
theorem own_of {x : UInt64} {z : Int} (nx : val64 x ≠ .nan) (r : own_Rep z) (e : zval b64 (val64 x) = z) : own_D x z := by
  obtain ⟨V, fV, hV, eV⟩ := r
  exact ⟨own_close (val64_fits x) nx fV hV (by rw [e, eV]), e⟩
theorem own_dadd {x y : UInt64} {z w : Int} (hx : own_D x z) (hy : own_D y w) (r : own_Rep (z + w)) : own_D (FP.dadd x y) (z + w) := by
  have r' := r
  obtain ⟨V, fV, ⟨s, c, q, hV⟩, eV⟩ := r
  have nV : V ≠ .nan := by rw [hV]; exact Datum.noConfusion
  have e : zval b64 (val64 (Core.dadd x y)) = z + w := by
    rw [val64_dadd]
    have h1 := sum_le good_b64 hx.1 hy.1 (val64_fits x) (val64_fits y) fV nV (by rw [hx.2, hy.2, eV]; omega)
    have h2 := sum_ge good_b64 hx.1 hy.1 (val64_fits x) (val64_fits y) fV nV (by rw [hx.2, hy.2, eV]; omega)
    omega
  refine own_of ?_ r' e
  show val64 (Core.dadd x y) ≠ .nan
  rw [val64_dadd]
  obtain ⟨s1, c1, q1, e1⟩ := hx.1
  obtain ⟨s2, c2, q2, e2⟩ := hy.1
  rw [e1, e2]
  exact roundRatio_ne_nan _ _ _ _ _
theorem own_dneg {x : UInt64} {z : Int} (hx : own_D x z) : own_D (Core.dneg x) (-z) := by
  constructor
  · obtain ⟨s, c, q, e⟩ := hx.1
    exact ⟨!s, c, q, by rw [val64_dneg, e]; rfl⟩
  · rw [val64_dneg, zval_negate, hx.2]
theorem own_dsub {x y : UInt64} {z w : Int} (hx : own_D x z) (hy : own_D y w) (r : own_Rep (z - w)) : own_D (FP.dsub x y) (z - w) := by
  have h := own_dadd hx (own_dneg hy) (by rw [← Int.sub_eq_add_neg]; exact r)
  rw [← Int.sub_eq_add_neg] at h
  show own_D (Core.dsub x y) _
  rw [dsub_eq]; exact h
/-- a product: worth z * w over 2^1074 -/
theorem own_dmul {x y : UInt64} {z w u : Int} (hx : own_D x z) (hy : own_D y w) (r : own_Rep u) (hu : z * w = u * ((2 ^ 1074 : Nat) : Int)) : own_D (FP.dmul x y) u := by
  have r' := r
  obtain ⟨V, fV, ⟨s, c, q, hV⟩, eV⟩ := r
  have nV : V ≠ .nan := by rw [hV]; exact Datum.noConfusion
  obtain ⟨s1, c1, q1, e1⟩ := hx.1
  obtain ⟨s2, c2, q2, e2⟩ := hy.1
  have f1 := val64_fits x
  have f2 := val64_fits y
  have z1 := hx.2
  have z2 := hy.2
  rw [e1] at f1 z1
  rw [e2] at f2 z2
  obtain ⟨p1, p2, p3⟩ := product_units f1 f2
  have hs : signed (s1 != s2) (inUnits (c1 * c2) (q1 + q2) (2 * b64.qmin)) = z * w := by
    rw [p3, ← z1, ← z2]
    unfold zval
    show signed (s1 != s2) _ = signed s1 _ * signed s2 _
    cases s1 <;> cases s2 <;> simp [signed, Int.neg_mul, Int.mul_neg]
  have hP : ((2 ^ (b64.qmin - 2 * b64.qmin).toNat : Nat) : Int) = ((2 ^ 1074 : Nat) : Int) := by rw [qmin_b64]; rfl
  have e : zval b64 (val64 (Core.dmul x y)) = u := by
    rw [val64_dmul, e1, e2, p1]
    have h1 := zval_round_le good_b64 (s := (s1 != s2)) (c := c1 * c2) (q := q1 + q2) (e0 := 2 * b64.qmin) fV nV (by rw [qmin_b64]; omega) p2 (by rw [hs, hu, eV, hP]; exact Int.le_refl _)
    have h2 := zval_round_ge good_b64 (s := (s1 != s2)) (c := c1 * c2) (q := q1 + q2) (e0 := 2 * b64.qmin) fV nV (by rw [qmin_b64]; omega) p2 (by rw [hs, hu, eV, hP]; exact Int.le_refl _)
    omega
  refine own_of ?_ r' e
  show val64 (Core.dmul x y) ≠ .nan
  rw [val64_dmul, e1, e2, p1]
  exact roundRatio_ne_nan _ _ _ _ _
/-- a quotient by something positive: u * w = z * 2^1074 -/
theorem own_ddiv {x y : UInt64} {z w u : Int} (hx : own_D x z) (hy : own_D y w) (hw : 0 < w) (r : own_Rep u) (hu : u * w = z * ((2 ^ 1074 : Nat) : Int)) : own_D (FP.ddiv x y) u := by
  have r' := r
  obtain ⟨V, fV, ⟨s, c, q, hV⟩, eV⟩ := r
  have nV : V ≠ .nan := by rw [hV]; exact Datum.noConfusion
  obtain ⟨s1, c1, q1, e1⟩ := hx.1
  obtain ⟨s2, c2, q2, e2⟩ := hy.1
  have f1 := val64_fits x
  have f2 := val64_fits y
  have z1 := hx.2
  have z2 := hy.2
  rw [e1] at f1 z1
  rw [e2] at f2 z2
  have z1' : signed s1 (c1 * 2 ^ (q1 + 1074).toNat) = z := by
    rw [← z1]; show _ = signed s1 (inUnits c1 q1 b64.qmin); unfold inUnits; rw [qmin_b64]; rw [show q1 - -1074 = q1 + 1074 by omega]
  have z2' : signed s2 (c2 * 2 ^ (q2 + 1074).toNat) = w := by
    rw [← z2]; show _ = signed s2 (inUnits c2 q2 b64.qmin); unfold inUnits; rw [qmin_b64]; rw [show q2 - -1074 = q2 + 1074 by omega]
  have g1 : -1074 ≤ q1 := by have := f1.2.1; rw [qmin_b64] at this; exact this
  have g2 : -1074 ≤ q2 := by have := f2.2.1; rw [qmin_b64] at this; exact this
  have hs2 : s2 = false ∧ 0 < c2 := by
    cases s2
    · refine ⟨rfl, Nat.pos_of_ne_zero fun h => ?_⟩
      subst h; simp [signed] at z2'; omega
    · simp only [signed, if_true] at z2'; omega
  obtain ⟨rfl, hc2⟩ := hs2
  have hval : val64 (Core.ddiv x y) = roundRatio b64 (s1 != false) c1 c2 (q1 - q2) := by
    rw [val64_ddiv, e1, e2]
    show (if c2 = 0 then _ else _) = _
    rw [if_neg (by omega)]
  have hb : (s1 != false) = s1 := by cases s1 <;> rfl
  rw [hb] at hval
  -- magnitudes
  have hz : z.natAbs = c1 * 2 ^ (q1 + 1074).toNat := by rw [← z1']; exact natAbs_signed _ _
  have hw' : w = ((c2 * 2 ^ (q2 + 1074).toNat : Nat) : Int) := by rw [← z2']; rfl
  have hm : zmag b64 V * (c2 * 2 ^ (q2 + 1074).toNat) = c1 * 2 ^ (q1 + 1074).toNat * 2 ^ 1074 := by
    have h1 : (zval b64 V).natAbs = zmag b64 V := natAbs_signed _ _
    have h2 : (u * w).natAbs = (z * ((2 ^ 1074 : Nat) : Int)).natAbs := by rw [hu]
    rw [Int.natAbs_mul, Int.natAbs_mul, ← eV, h1, hz, Int.natAbs_natCast, hw', Int.natAbs_natCast] at h2
    exact h2
  -- a common low exponent
  have hq : inUnits c1 (q1 - q2) (-1074 - (q2 + 1074)) = c1 * 2 ^ (q1 + 1074).toNat * 2 ^ 1074 := by
    unfold inUnits
    rw [show (q1 - q2 - (-1074 - (q2 + 1074))).toNat = (q1 + 1074).toNat + 1074 by omega, Nat.pow_add, Nat.mul_assoc]
  have hP : (b64.qmin - (-1074 - (q2 + 1074))).toNat = (q2 + 1074).toNat := by rw [qmin_b64]; omega
  have hmm : zmag b64 V * 2 ^ (q2 + 1074).toNat * c2 = inUnits c1 (q1 - q2) (-1074 - (q2 + 1074)) := by
    rw [hq, ← hm, Nat.mul_assoc, Nat.mul_comm (2 ^ (q2 + 1074).toNat) c2]
  have l1 := zmag_roundRatio_le good_b64 (s := s1) (A := c1) (e := q1 - q2) (e0 := -1074 - (q2 + 1074)) hc2 fV nV (by rw [qmin_b64]; omega) (by omega) (by rw [hP, hmm]; exact Nat.le_refl _)
  have l2 := zmag_roundRatio_ge good_b64 (s := s1) (A := c1) (e := q1 - q2) (e0 := -1074 - (q2 + 1074)) hc2 fV (by rw [qmin_b64]; omega) (by omega) (by rw [hP, hmm]; exact Nat.le_refl _)
  have hmag : zmag b64 (val64 (Core.ddiv x y)) = zmag b64 V := by rw [hval]; omega
  have e : zval b64 (val64 (Core.ddiv x y)) = u := by
    unfold zval
    rw [hmag, hval, sgn_roundRatio]
    have h1 : (zval b64 V).natAbs = zmag b64 V := natAbs_signed _ _
    rw [eV] at h1
    -- the sign of u is that of z
    have hp : (0 : Int) < ((2 ^ 1074 : Nat) : Int) := Int.natCast_pos.mpr (Nat.two_pow_pos 1074)
    cases s1
    · have hz0 : 0 ≤ z := by rw [← z1']; simp [signed]; exact Int.natCast_nonneg _
      have : 0 ≤ u := by
        have : 0 ≤ u * w := by rw [hu]; exact Int.mul_nonneg hz0 (by omega)
        exact Int.nonneg_of_mul_nonneg_left this hw
      show ((zmag b64 V : Nat) : Int) = u
      omega
    · have hz0 : z ≤ 0 := by
        rw [← z1']; simp only [signed, if_true]; omega
      have : u ≤ 0 := by
        have h3 : 0 ≤ (-u) * w := by
          rw [Int.neg_mul, hu, ← Int.neg_mul]; exact Int.mul_nonneg (by omega) (by omega)
        have := Int.nonneg_of_mul_nonneg_left h3 hw
        omega
      show -((zmag b64 V : Nat) : Int) = u
      omega
  refine own_of ?_ r' e
  show val64 (Core.ddiv x y) ≠ .nan
  rw [hval]
  exact roundRatio_ne_nan _ _ _ _ _
theorem own_l2d {a : Int64} (h : a.toInt.natAbs ≤ 9007199254740992) : own_D (FP.l2d a) (a.toInt * ((2 ^ 1074 : Nat) : Int)) := by
  refine ⟨Core.l2d_fin a, ?_⟩
  exact DInt_zval (l2d_int (show _ ≤ 2 ^ 53 by omega))
theorem own_i2d (a : Int32) : own_D (FP.i2d a) (a.toInt * ((2 ^ 1074 : Nat) : Int)) := ⟨Core.i2d_fin a, DInt_zval (i2d_int a)⟩
theorem own_dcmp {x y : UInt64} {z w : Int} (hx : own_D x z) (hy : own_D y w) : FP.dcmp x y = some (compare z w) := by
  have h := dcmp_zval hx.nn hy.nn
  rw [hx.2, hy.2] at h
  exact h
theorem own_deq {x y : UInt64} {z : Int} (hx : own_D x z) (hy : own_D y z) (o : Jvm.ClassFile.CmpOp) : Jvm.Op.cmpValue (FP.dcmp x y) o = 0 := by
  rw [own_dcmp hx hy, show compare z z = .eq from (compare_eq_iff z z).mpr rfl]; rfl
end OwnDy
end Jvm.FP.Core
namespace Jvm.FP.Core
section OwnMono
theorem own_fin_le {d V : Datum} (fd : fits b64 d) (nd : d ≠ .nan) (fV : fits b64 V) (hV : ∃ s c q, V = Datum.fin s c q) (h : zmag b64 d ≤ zmag b64 V) : ∃ s c q, d = .fin s c q := by
  obtain ⟨s, c, q, rfl⟩ := hV
  have h1 := zmag_lt_top good_b64 fV
  cases d with
  | nan => exact absurd rfl nd
  | fin s' c' q' => exact ⟨_, _, _, rfl⟩
  | inf t =>
    exfalso
    have h2 : zmag b64 (.inf t) = b64.tails * 2 ^ (b64.exps - 2) := rfl
    have h3 : zmag b64 (.fin s c q) = inUnits c q b64.qmin := rfl
    omega
/-- rounding is monotone: two ratios at one exponent, both rounded to numbers -/
theorem own_mono {A B A' B' : Nat} {e : Int} (he : -1074 ≤ e) (hB : 0 < B) (hB' : 0 < B') (hR : ∃ s c q, roundRatio b64 false A B e = Datum.fin s c q) (hR' : ∃ s c q, roundRatio b64 false A' B' e = Datum.fin s c q) (h : A * B' ≤ A' * B) : zmag b64 (roundRatio b64 false A B e) ≤ zmag b64 (roundRatio b64 false A' B' e) := by
  obtain ⟨s, c, q, e1⟩ := hR
  obtain ⟨s', c', q', e2⟩ := hR'
  have f1 := roundRatio_fits good_b64 false A hB e
  have f2 := roundRatio_fits good_b64 false A' hB' e
  have n1 := roundRatio_ne_nan b64 false A B e
  have n2 := roundRatio_ne_nan b64 false A' B' e
  refine Nat.le_of_not_lt fun hlt => ?_
  have q0 : (-1074 : Int) ≤ b64.qmin := by rw [qmin_b64]; exact Int.le_refl _
  have hP : (b64.qmin - (-1074)).toNat = 0 := by rw [qmin_b64]; rfl
  -- A / B lies above the lower one, A' / B' below the upper one
  have h1 : ¬ (inUnits A e (-1074) ≤ zmag b64 (roundRatio b64 false A' B' e) * B) := fun w => by
    have := zmag_roundRatio_le good_b64 (s := false) (A := A) (e := e) (e0 := -1074) hB f2 n2 q0 he (by rw [hP, Nat.pow_zero, Nat.mul_one]; exact w)
    omega
  have h2 : ¬ (zmag b64 (roundRatio b64 false A B e) * B' ≤ inUnits A' e (-1074)) := fun w => by
    have := zmag_roundRatio_ge good_b64 (s := false) (A := A') (e := e) (e0 := -1074) hB' f1 q0 he (by rw [hP, Nat.pow_zero, Nat.mul_one]; exact w)
    omega
  have d1 := roundRatio_nearest good_b64 (s := false) (e0 := -1074) hB e1 (e2 ▸ f2).1 (e2 ▸ f2).2.1 q0 he
  have d2 := roundRatio_nearest good_b64 (s := false) (e0 := -1074) hB' e2 (e1 ▸ f1).1 (e1 ▸ f1).2.1 q0 he
  have u1 : inUnits c q (-1074) = zmag b64 (roundRatio b64 false A B e) := by rw [e1]; show _ = inUnits c q b64.qmin; rw [qmin_b64]
  have u2 : inUnits c' q' (-1074) = zmag b64 (roundRatio b64 false A' B' e) := by rw [e2]; show _ = inUnits c' q' b64.qmin; rw [qmin_b64]
  unfold distance at d1 d2
  rw [u1, u2] at d1 d2
  have hz : zmag b64 (roundRatio b64 false A B e) ≠ zmag b64 (roundRatio b64 false A' B' e) := by omega
  have hne : ¬ (A * B' = A' * B) := fun w => hz (congrArg (zmag b64) (roundRatio_congr hB hB' (by rw [Int.sub_self]; simpa using w)))
  generalize zmag b64 (roundRatio b64 false A B e) = R at *
  generalize zmag b64 (roundRatio b64 false A' B' e) = R' at *
  have ha : inUnits A e (-1074) = A * 2 ^ (e - -1074).toNat := rfl
  have ha' : inUnits A' e (-1074) = A' * 2 ^ (e - -1074).toNat := rfl
  generalize hK : 2 ^ (e - -1074).toNat = K at ha ha'
  have hKp : 0 < K := by rw [← hK]; exact Nat.two_pow_pos _
  generalize inUnits A e (-1074) = a at *
  generalize inUnits A' e (-1074) = a' at *
  rw [← Int.natCast_mul, ← Int.natCast_mul] at d1 d2
  -- twice the first is at least the sum, twice the second at most
  have g1 : (R + R') * B ≤ 2 * a := by
    rw [Nat.add_mul]
    generalize R * B = x at *
    generalize R' * B = y at *
    omega
  have g2 : 2 * a' ≤ (R + R') * B' := by
    rw [Nat.add_mul]
    generalize R * B' = x at *
    generalize R' * B' = y at *
    omega
  have k1 := Nat.mul_le_mul_right B' g1
  have k2 := Nat.mul_le_mul_right B g2
  have k3 : (R + R') * B * B' = (R + R') * B' * B := by rw [Nat.mul_assoc, Nat.mul_comm B, ← Nat.mul_assoc]
  have k4 : 2 * a * B' = 2 * K * (A * B') := by rw [ha]; ac_rfl
  have k5 : 2 * a' * B = 2 * K * (A' * B) := by rw [ha']; ac_rfl
  rw [k4, k3] at k1
  rw [k5] at k2
  have k6 : 2 * K * (A' * B) ≤ 2 * K * (A * B') := Nat.le_trans k2 k1
  have k7 : A' * B ≤ A * B' := Nat.le_of_mul_le_mul_left k6 (by omega)
  exact hne (Nat.le_antisymm h k7)
theorem own_cancel {X Y : Nat} {m n : Int} (hm : 0 ≤ m) (hn : 0 ≤ n) (h : X * 2 ^ m.toNat = Y * 2 ^ n.toNat) : X * 2 ^ (m - n).toNat = Y * 2 ^ (n - m).toNat := by
  by_cases q : n ≤ m
  · have e1 : m.toNat = (m - n).toNat + n.toNat := by omega
    rw [e1, Nat.pow_add, ← Nat.mul_assoc] at h
    rw [show (n - m).toNat = 0 by omega, Nat.pow_zero, Nat.mul_one]
    exact Nat.eq_of_mul_eq_mul_right (Nat.two_pow_pos _) h
  · have e1 : n.toNat = (n - m).toNat + m.toNat := by omega
    rw [e1, Nat.pow_add, ← Nat.mul_assoc] at h
    rw [show (m - n).toNat = 0 by omega, Nat.pow_zero, Nat.mul_one]
    exact Nat.eq_of_mul_eq_mul_right (Nat.two_pow_pos _) h
/-- the parts of a double worth a number of units that isn't negative, its sign being + -/
theorem own_parts {x : UInt64} {z : Nat} (h : own_D x (z : Int)) (hs : sgn (val64 x) = false) : ∃ c q, val64 x = .fin false c q ∧ -1074 ≤ q ∧ c * 2 ^ (q + 1074).toNat = z := by
  obtain ⟨⟨s, c, q, e⟩, hz⟩ := h
  rw [e] at hs hz
  have hs' : s = false := hs
  subst hs'
  have f := val64_fits x
  rw [e] at f
  refine ⟨c, q, e, by have := f.2.1; rw [qmin_b64] at this; exact this, ?_⟩
  have : ((inUnits c q b64.qmin : Nat) : Int) = (z : Int) := hz
  unfold inUnits at this
  rw [qmin_b64, show q - -1074 = q + 1074 by omega] at this
  exact Int.natCast_inj.mp this
def own_U : Nat := 2 ^ 1074
theorem own_Upos : 0 < own_U := Nat.two_pow_pos _
theorem own_Upow {a b n c : Nat} (h : a + b = n) (hc : 2 ^ a = c) : (2 : Nat) ^ n = c * 2 ^ b := by rw [← hc, ← Nat.pow_add, h]
theorem own_divR {x y : UInt64} {t s : Nat} (hx : own_D x ((t * own_U : Nat) : Int)) (hy : own_D y ((s * own_U : Nat) : Int)) (sx : sgn (val64 x) = false) (sy : sgn (val64 y) = false) (hs : 0 < s) : val64 (FP.ddiv x y) = roundRatio b64 false t s 0 := by
  obtain ⟨c1, q1, e1, g1, k1⟩ := own_parts hx sx
  obtain ⟨c2, q2, e2, g2, k2⟩ := own_parts hy sy
  have hc2 : 0 < c2 := Nat.pos_of_ne_zero fun h => by
    subst h
    rw [Nat.zero_mul] at k2
    have := Nat.mul_pos hs own_Upos
    omega
  show val64 (Core.ddiv x y) = _
  rw [val64_ddiv, e1, e2]
  show (if c2 = 0 then _ else roundRatio b64 false c1 c2 (q1 - q2)) = _
  rw [if_neg (by omega)]
  refine roundRatio_congr hc2 hs ?_
  have h : c1 * s * 2 ^ (q1 + 1074).toNat = t * c2 * 2 ^ (q2 + 1074).toNat := by
    calc c1 * s * 2 ^ (q1 + 1074).toNat = s * (c1 * 2 ^ (q1 + 1074).toNat) := by ac_rfl
      _ = t * (s * own_U) := by rw [k1]; exact Nat.mul_left_comm _ _ _
      _ = t * c2 * 2 ^ (q2 + 1074).toNat := by rw [← k2]; ac_rfl
  have h' := own_cancel (by omega) (by omega) h
  rw [show (q1 + 1074 - (q2 + 1074)) = q1 - q2 - 0 by omega, show (q2 + 1074 - (q1 + 1074)) = 0 - (q1 - q2) by omega] at h'
  exact h'
theorem own_mulR {x y : UInt64} {w z : Nat} (hx : own_D x ((w * own_U : Nat) : Int)) (hy : own_D y (z : Int)) (sx : sgn (val64 x) = false) (sy : sgn (val64 y) = false) : val64 (FP.dmul x y) = roundRatio b64 false (w * z) 1 (-1074) := by
  obtain ⟨c1, q1, e1, g1, k1⟩ := own_parts hx sx
  obtain ⟨c2, q2, e2, g2, k2⟩ := own_parts hy sy
  show val64 (Core.dmul x y) = _
  rw [val64_dmul, e1, e2]
  show roundRatio b64 false (c1 * c2) 1 (q1 + q2) = _
  refine roundRatio_congr (by decide) (by decide) ?_
  have h : c1 * c2 * 2 ^ (q1 + 1074 + (q2 + 1074)).toNat = w * z * 2 ^ (1074 : Int).toNat := by
    rw [show (q1 + 1074 + (q2 + 1074)).toNat = (q1 + 1074).toNat + (q2 + 1074).toNat by omega, Nat.pow_add]
    calc c1 * c2 * (2 ^ (q1 + 1074).toNat * 2 ^ (q2 + 1074).toNat) = (c1 * 2 ^ (q1 + 1074).toNat) * (c2 * 2 ^ (q2 + 1074).toNat) := by ac_rfl
      _ = w * own_U * z := by rw [k1, k2]
      _ = w * z * own_U := Nat.mul_right_comm _ _ _
  have h' := own_cancel (by omega) (by omega) h
  rw [show (q1 + 1074 + (q2 + 1074) - 1074) = q1 + q2 - -1074 by omega, show ((1074 : Int) - (q1 + 1074 + (q2 + 1074))) = -1074 - (q1 + q2) by omega] at h'
  rw [Nat.mul_one, Nat.mul_one]
  exact h'
/-- the quotient t / s, rounded, in units -/
def own_zq (t s : Nat) : Nat := zmag b64 (roundRatio b64 false t s 0)
/-- the product of the whole w and z units, rounded, in units -/
def own_zp (w z : Nat) : Nat := zmag b64 (roundRatio b64 false (w * z) 1 (-1074))
theorem own_repN (c k : Nat) (hc : c < 9007199254740992) (hk : k ≤ 2045) : ∃ V, fits b64 V ∧ (∃ s c q, V = Datum.fin s c q) ∧ zmag b64 V = c * 2 ^ k := by
  obtain ⟨V, h1, h2, h3⟩ := own_rep (c : Int) k (by omega) hk
  refine ⟨V, h1, h2, ?_⟩
  have h4 : (zval b64 V).natAbs = zmag b64 V := natAbs_signed _ _
  rw [← h4, h3, ← Int.natCast_mul, Int.natAbs_natCast]
theorem own_zq_le {t s c k : Nat} (hs : 0 < s) (hc : c < 9007199254740992) (hk : k ≤ 2045) (h : t * own_U ≤ c * 2 ^ k * s) : own_zq t s ≤ c * 2 ^ k := by
  obtain ⟨V, h1, ⟨s1, c1, q1, h2⟩, h3⟩ := own_repN c k hc hk
  rw [← h3]
  refine zmag_roundRatio_le good_b64 (e0 := -1074) hs h1 (by rw [h2]; exact Datum.noConfusion) (by rw [qmin_b64]; exact Int.le_refl _) (by omega) ?_
  rw [qmin_b64, h3]
  show t * 2 ^ (0 - -1074 : Int).toNat ≤ c * 2 ^ k * 2 ^ (0 : Nat) * s
  rw [Nat.pow_zero, Nat.mul_one]
  exact h
theorem own_zq_ge {t s c k : Nat} (hs : 0 < s) (hc : c < 9007199254740992) (hk : k ≤ 2045) (h : c * 2 ^ k * s ≤ t * own_U) : c * 2 ^ k ≤ own_zq t s := by
  obtain ⟨V, h1, h2, h3⟩ := own_repN c k hc hk
  rw [← h3]
  refine zmag_roundRatio_ge good_b64 (e0 := -1074) hs h1 (by rw [qmin_b64]; exact Int.le_refl _) (by omega) ?_
  rw [qmin_b64, h3]
  show c * 2 ^ k * 2 ^ (0 : Nat) * s ≤ t * 2 ^ (0 - -1074 : Int).toNat
  rw [Nat.pow_zero, Nat.mul_one]
  exact h
theorem own_zp_le {w z c k : Nat} (hc : c < 9007199254740992) (hk : k ≤ 2045) (h : w * z ≤ c * 2 ^ k) : own_zp w z ≤ c * 2 ^ k := by
  obtain ⟨V, h1, ⟨s1, c1, q1, h2⟩, h3⟩ := own_repN c k hc hk
  rw [← h3]
  refine zmag_roundRatio_le good_b64 (e0 := -1074) (by decide) h1 (by rw [h2]; exact Datum.noConfusion) (by rw [qmin_b64]; exact Int.le_refl _) (by omega) ?_
  rw [qmin_b64, h3]
  show w * z * 2 ^ (0 : Nat) ≤ c * 2 ^ k * 2 ^ (0 : Nat) * 1
  rw [Nat.pow_zero, Nat.mul_one, Nat.mul_one, Nat.mul_one]
  exact h
theorem own_zp_ge {w z : Nat} {y : UInt64} (hy : own_D y (z : Int)) (h : z ≤ w * z) : z ≤ own_zp w z := by
  have h4 : (zval b64 (val64 y)).natAbs = zmag b64 (val64 y) := natAbs_signed _ _
  rw [hy.2, Int.natAbs_natCast] at h4
  have := zmag_roundRatio_ge good_b64 (s := false) (A := w * z) (B := 1) (e := -1074) (e0 := -1074) (by decide) (val64_fits y) (by rw [qmin_b64]; exact Int.le_refl _) (by omega) (by
    rw [qmin_b64, ← h4]
    show z * 2 ^ (0 : Nat) * 1 ≤ w * z * 2 ^ (0 : Nat)
    rw [Nat.pow_zero, Nat.mul_one, Nat.mul_one, Nat.mul_one]
    exact h)
  rw [← h4] at this
  exact this
/-- the whole of 'part', for whole numbers: t from 1, l from 0, w from 0 -/
theorem own_part {xw xt xs : UInt64} {w t s : Nat} (hw : own_D xw ((w * own_U : Nat) : Int)) (ht : own_D xt ((t * own_U : Nat) : Int)) (hs : own_D xs ((s * own_U : Nat) : Int)) (sw : sgn (val64 xw) = false) (st : sgn (val64 xt) = false) (ss : sgn (val64 xs) = false) (t0 : 0 < t) (hts : t ≤ s) (hw31 : w ≤ 2147483648) :
    own_D (FP.ddiv xt xs) ((own_zq t s : Nat) : Int) ∧ own_D (FP.dmul xw (FP.ddiv xt xs)) ((own_zp w (own_zq t s) : Nat) : Int) := by
  have s0 : 0 < s := by omega
  have vq := own_divR ht hs st ss s0
  have q1 : own_zq t s ≤ 1 * 2 ^ 1074 := own_zq_le s0 (by decide) (by decide) (by rw [Nat.one_mul]; show t * own_U ≤ own_U * s; rw [Nat.mul_comm]; exact Nat.mul_le_mul_left _ hts)
  obtain ⟨V, fV, hV, eV⟩ := own_repN 1 1074 (by decide) (by decide)
  have nq : val64 (FP.ddiv xt xs) ≠ .nan := by rw [vq]; exact roundRatio_ne_nan _ _ _ _ _
  have fq := own_fin_le (val64_fits (FP.ddiv xt xs)) nq fV hV (by rw [vq, eV]; exact q1)
  have sq : sgn (val64 (FP.ddiv xt xs)) = false := by rw [vq]; exact sgn_roundRatio _ _ _ _ _
  have dq : own_D (FP.ddiv xt xs) ((own_zq t s : Nat) : Int) := by
    refine ⟨fq, ?_⟩
    unfold zval
    rw [sq, vq]; rfl
  refine ⟨dq, ?_⟩
  have vp := own_mulR hw dq sw sq
  have p1 : own_zp w (own_zq t s) ≤ w * 2 ^ 1074 := own_zp_le (by omega) (by decide) (Nat.mul_le_mul_left _ (by rw [Nat.one_mul] at q1; exact q1))
  obtain ⟨V2, fV2, hV2, eV2⟩ := own_repN w 1074 (by omega) (by decide)
  have np : val64 (FP.dmul xw (FP.ddiv xt xs)) ≠ .nan := by rw [vp]; exact roundRatio_ne_nan _ _ _ _ _
  have fp := own_fin_le (val64_fits (FP.dmul xw (FP.ddiv xt xs))) np fV2 hV2 (by rw [vp, eV2]; exact p1)
  refine ⟨fp, ?_⟩
  unfold zval
  rw [vp, sgn_roundRatio]; rfl
theorem own_zq_fin {t s : Nat} (s0 : 0 < s) (hts : t ≤ s) : ∃ b c q, roundRatio b64 false t s 0 = Datum.fin b c q := by
  obtain ⟨V, fV, hV, eV⟩ := own_repN 1 1074 (by decide) (by decide)
  have q1 : own_zq t s ≤ 1 * 2 ^ 1074 := own_zq_le s0 (by decide) (by decide) (by rw [Nat.one_mul]; show t * own_U ≤ own_U * s; rw [Nat.mul_comm]; exact Nat.mul_le_mul_left _ hts)
  exact own_fin_le (roundRatio_fits good_b64 false t s0 0) (roundRatio_ne_nan _ _ _ _ _) fV hV (by rw [eV]; exact q1)
theorem own_zp_fin {w z : Nat} (hw : w ≤ 2147483648) (hz : z ≤ 2 ^ 1074) : ∃ b c q, roundRatio b64 false (w * z) 1 (-1074) = Datum.fin b c q := by
  obtain ⟨V2, fV2, hV2, eV2⟩ := own_repN w 1074 (by omega) (by decide)
  exact own_fin_le (roundRatio_fits good_b64 false _ (by decide) _) (roundRatio_ne_nan _ _ _ _ _) fV2 hV2 (by rw [eV2]; exact own_zp_le (by omega) (by decide) (Nat.mul_le_mul_left _ hz))
theorem own_zq_one {t s : Nat} (s0 : 0 < s) (hts : t ≤ s) : own_zq t s ≤ 2 ^ 1074 := by
  have q1 : own_zq t s ≤ 1 * 2 ^ 1074 := own_zq_le s0 (by decide) (by decide) (by rw [Nat.one_mul]; show t * own_U ≤ own_U * s; rw [Nat.mul_comm]; exact Nat.mul_le_mul_left _ hts)
  rw [Nat.one_mul] at q1; exact q1
theorem own_zq_mono {t s t' s' : Nat} (s0 : 0 < s) (s0' : 0 < s') (hts : t ≤ s) (hts' : t' ≤ s') (h : t * s' ≤ t' * s) : own_zq t s ≤ own_zq t' s' :=
  own_mono (by decide) s0 s0' (own_zq_fin s0 hts) (own_zq_fin s0' hts') h
theorem own_zp_mono {w z z' : Nat} (hw : w ≤ 2147483648) (hz : z ≤ z') (hz' : z' ≤ 2 ^ 1074) : own_zp w z ≤ own_zp w z' :=
  own_mono (by decide) (by decide) (by decide) (own_zp_fin hw (Nat.le_trans hz hz')) (own_zp_fin hw hz') (by rw [Nat.mul_one, Nat.mul_one]; exact Nat.mul_le_mul_left _ hz)
theorem own_zq_pos {t s : Nat} (t0 : 0 < t) (s0 : 0 < s) (hs : s ≤ 4294967296) : 0 < own_zq t s := by
  have h := own_zq_ge (t := t) (c := 1) (k := 1042) s0 (by decide) (by decide) (by
    rw [Nat.one_mul]
    calc 2 ^ 1042 * s ≤ 2 ^ 1042 * 4294967296 := Nat.mul_le_mul_left _ hs
      _ = own_U := by
        have hU : own_U = 4294967296 * 2 ^ 1042 := own_Upow (a := 32) (n := 1074) rfl rfl
        rw [hU, Nat.mul_comm]
      _ ≤ t * own_U := Nat.le_mul_of_pos_left _ t0)
  exact Nat.lt_of_lt_of_le (by rw [Nat.one_mul]; exact Nat.two_pow_pos _) h
theorem own_zp_lt {w t l : Nat} (w0 : 0 < w) (hw : w ≤ 2147483648) (l0 : 0 < l) (ht : t ≤ 1073741824) : own_zp w (own_zq t (t + l)) < w * own_U := by
  have hq : own_zq t (t + l) ≤ 2147483647 * 2 ^ 1043 := own_zq_le (by omega) (by decide) (by decide) (by
    have hU : own_U = 2147483648 * 2 ^ 1043 := own_Upow (a := 31) (n := 1074) rfl rfl
    rw [hU]
    generalize 2 ^ 1043 = K
    have h1 : t * 2147483648 ≤ 2147483647 * (t + l) := by omega
    calc t * (2147483648 * K) = (t * 2147483648) * K := by ac_rfl
      _ ≤ (2147483647 * (t + l)) * K := Nat.mul_le_mul_right _ h1
      _ = 2147483647 * K * (t + l) := by ac_rfl)
  have hm := Nat.mul_le_mul_left w hq
  by_cases h : w ≤ 2097152
  · have hU : own_U = 2147483648 * 2 ^ 1043 := own_Upow (a := 31) (n := 1074) rfl rfl
    have h2 : own_zp w (own_zq t (t + l)) ≤ (w * 2147483648 - 1) * 2 ^ 1043 := own_zp_le (by omega) (by decide) (Nat.le_trans hm (by
      rw [← Nat.mul_assoc]
      exact Nat.mul_le_mul_right _ (by omega)))
    rw [hU, ← Nat.mul_assoc]
    exact Nat.lt_of_le_of_lt h2 (Nat.mul_lt_mul_of_pos_right (by omega) (Nat.two_pow_pos _))
  · have hU : own_U = 2097152 * 2 ^ 1053 := own_Upow (a := 21) (n := 1074) rfl rfl
    have h2 : own_zp w (own_zq t (t + l)) ≤ (w * 2097152 - 1) * 2 ^ 1053 := own_zp_le (by omega) (by decide) (Nat.le_trans hm (by
      have e : (2 : Nat) ^ 1053 = 1024 * 2 ^ 1043 := own_Upow (a := 10) rfl rfl
      rw [e, ← Nat.mul_assoc, ← Nat.mul_assoc]
      exact Nat.mul_le_mul_right _ (by omega)))
    rw [hU, ← Nat.mul_assoc]
    exact Nat.lt_of_le_of_lt h2 (Nat.mul_lt_mul_of_pos_right (by omega) (Nat.two_pow_pos _))
theorem own_zq_eq {t s k : Nat} (s0 : 0 < s) (hk : k ≤ 2045) (h : t * own_U = 1 * 2 ^ k * s) : own_zq t s = 2 ^ k := by
  have h1 := own_zq_le (t := t) (c := 1) s0 (by decide) hk (Nat.le_of_eq h)
  have h2 := own_zq_ge (t := t) (c := 1) s0 (by decide) hk (Nat.le_of_eq h.symm)
  rw [Nat.one_mul] at h1 h2
  exact Nat.le_antisymm h1 h2
theorem own_zp_one {w : Nat} (hw : w ≤ 2147483648) (k : Nat) (hk : k ≤ 2045) {y : UInt64} : own_zp w (2 ^ k) = w * 2 ^ k := by
  obtain ⟨V, h1, ⟨s1, c1, q1, h2⟩, h3⟩ := own_repN w k (by omega) hk
  refine Nat.le_antisymm (own_zp_le (by omega) hk (Nat.le_refl _)) ?_
  have := zmag_roundRatio_ge good_b64 (s := false) (A := w * 2 ^ k) (B := 1) (e := -1074) (e0 := -1074) (by decide) h1 (by rw [qmin_b64]; exact Int.le_refl _) (by omega) (by
    rw [qmin_b64, h3]
    show w * 2 ^ k * 2 ^ (0 : Nat) * 1 ≤ w * 2 ^ k * 2 ^ (0 : Nat)
    rw [Nat.pow_zero, Nat.mul_one, Nat.mul_one]
    exact Nat.le_refl _)
  rw [h3] at this
  exact this
end OwnMono
end Jvm.FP.Core
namespace Jvm.Pilot.@@N@@
open Jvm Jvm.ClassFile Sem Op Lib Jvm.Free Jvm.Stand Jvm.LawKit Jvm.RoadKit Bundle Jvm.Pilot.@@N@@.Jvm.D
open Jvm.FP.Core (own_D own_Rep own_rep own_dadd own_dmul own_l2d own_i2d own_deq own_dcmp own_U own_Upos own_Upow own_zq own_zp own_part own_zq_mono own_zp_mono own_zq_pos own_zp_lt own_zq_eq own_zp_one own_zq_one own_zp_ge own_zp_le)
theorem own_c1 {x y : UInt64} {z w : Int} (hx : own_D x z) (hy : own_D y w) (h : w < z) (o : CmpOp) : cmpValue (FP.dcmp x y) o = 1 := by
  rw [own_dcmp hx hy, (Jvm.FP.Core.compare_gt_iff z w).mpr h]; rfl
theorem own_cm {x y : UInt64} {z w : Int} (hx : own_D x z) (hy : own_D y w) (h : z < w) (o : CmpOp) : cmpValue (FP.dcmp x y) o = -1 := by
  rw [own_dcmp hx hy, (Jvm.FP.Core.compare_lt_iff z w).mpr h]; rfl
theorem own_cle {x y : UInt64} {z w : Int} (hx : own_D x z) (hy : own_D y w) (h : z ≤ w) (o : CmpOp) : ¬ 0 < cmpValue (FP.dcmp x y) o := by
  by_cases q : z = w
  · subst q; rw [own_deq hx hy]; decide
  · rw [own_cm hx hy (by omega)]; decide
theorem own_cge {x y : UInt64} {z w : Int} (hx : own_D x z) (hy : own_D y w) (h : w ≤ z) (o : CmpOp) : ¬ cmpValue (FP.dcmp x y) o < 0 := by
  by_cases q : z = w
  · subst q; rw [own_deq hx hy]; decide
  · rw [own_c1 hx hy (by omega)]; decide
theorem own_l2dN {a : Int64} {n : Nat} (h : a.toInt = (n : Int)) (hn : n ≤ 4294967296) : own_D (FP.l2d a) ((n * own_U : Nat) : Int) := by
  have q := own_l2d (a := a) (by omega)
  rw [h] at q
  rw [Int.natCast_mul]
  exact q
theorem own_i2dN {a : Int32} {n : Nat} (h : a.toInt = (n : Int)) : own_D (FP.i2d a) ((n * own_U : Nat) : Int) := by
  have q := own_i2d a
  rw [h] at q
  rw [Int.natCast_mul]
  exact q
theorem own_sgn_l2d {a : Int64} (h : 0 ≤ a.toInt) : Jvm.FP.Core.sgn (Jvm.FP.Core.val64 (FP.l2d a)) = false := by
  obtain ⟨c, q, e⟩ := Jvm.FP.Core.l2d_shape a
  have : Jvm.FP.Core.val64 (FP.l2d a) = _ := e
  rw [this]
  show decide (a.toInt < 0) = false
  exact decide_eq_false (by omega)
theorem own_sgn_pos {x : UInt64} {z : Int} (h : own_D x z) (hz : 0 < z) : Jvm.FP.Core.sgn (Jvm.FP.Core.val64 x) = false := by
  have h2 := h.2
  unfold Jvm.FP.Core.zval at h2
  cases hs : Jvm.FP.Core.sgn (Jvm.FP.Core.val64 x)
  · rfl
  · rw [hs] at h2
    simp only [Jvm.FP.Core.signed, if_true] at h2
    omega
theorem own_z0 : own_D FP.dconst0 ((0 * own_U : Nat) : Int) := by
  have h := own_l2dN (a := 0) (n := 0) (by decide) (by decide)
  rw [l2d_zero] at h
  exact h
theorem own_zero : own_D FP.dconst0 0 := by
  have h := own_z0
  rw [Nat.zero_mul] at h
  exact h
theorem own_one : own_D FP.dconst1 ((1 * own_U : Nat) : Int) := by
  have h := own_l2dN (a := 1) (n := 1) (by decide) (by decide)
  rw [show FP.l2d 1 = FP.dconst1 by decide +kernel] at h
  exact h
theorem own_three : own_D 4613937818241073152 ((3 * own_U : Nat) : Int) := by
  have h := own_l2dN (a := 3) (n := 3) (by decide) (by decide)
  rw [show FP.l2d 3 = 4613937818241073152 by decide +kernel] at h
  exact h
theorem own_half : own_D 4602678819172646912 ((2 ^ 1073 : Nat) : Int) := ⟨⟨false, 2 ^ 52, -53, by decide +kernel⟩, by decide +kernel⟩
theorem own_quarter : own_D 4598175219545276416 ((2 ^ 1072 : Nat) : Int) := ⟨⟨false, 2 ^ 52, -54, by decide +kernel⟩, by decide +kernel⟩
theorem own_repU {n : Nat} (h : n < 9007199254740992) : own_Rep ((n * own_U : Nat) : Int) := by
  rw [Int.natCast_mul]
  exact own_rep (n : Int) 1074 (by omega) (by decide)
theorem own_addU {x y : UInt64} {a b : Nat} (hx : own_D x ((a * own_U : Nat) : Int)) (hy : own_D y ((b * own_U : Nat) : Int)) (h : a + b < 9007199254740992) : own_D (FP.dadd x y) (((a + b) * own_U : Nat) : Int) := by
  have e : ((a * own_U : Nat) : Int) + ((b * own_U : Nat) : Int) = (((a + b) * own_U : Nat) : Int) := by rw [Nat.add_mul]; exact (Int.natCast_add _ _).symm
  have q := own_dadd hx hy (by rw [e]; exact own_repU h)
  rw [e] at q
  exact q
theorem own_mulU {x y : UInt64} {a b : Nat} (hx : own_D x ((a * own_U : Nat) : Int)) (hy : own_D y ((b * own_U : Nat) : Int)) (h : a * b < 9007199254740992) : own_D (FP.dmul x y) (((a * b) * own_U : Nat) : Int) := by
  refine own_dmul hx hy (own_repU h) ?_
  rw [← Int.natCast_mul]
  show _ = ((a * b * own_U : Nat) : Int) * ((own_U : Nat) : Int)
  rw [← Int.natCast_mul]
  refine congrArg Int.ofNat ?_
  rw [Nat.mul_mul_mul_comm, Nat.mul_assoc (a * b)]
theorem own_mulk {x y : UInt64} {w k : Nat} (hx : own_D x ((w * own_U : Nat) : Int)) (hy : own_D y ((2 ^ k : Nat) : Int)) (hw : w ≤ 2147483648) (hk : k ≤ 2045) : own_D (FP.dmul x y) ((w * 2 ^ k : Nat) : Int) := by
  refine own_dmul hx hy (by rw [Int.natCast_mul]; exact own_rep (w : Int) k (by omega) hk) ?_
  rw [← Int.natCast_mul]
  show _ = ((w * 2 ^ k : Nat) : Int) * ((own_U : Nat) : Int)
  rw [← Int.natCast_mul, Nat.mul_right_comm]
theorem own_ofNat {z : Int} (h : 0 ≤ z) : ∃ n : Nat, z = (n : Int) := ⟨z.toNat, by omega⟩
/-- all that the law asks of the part, in units -/
theorem own_le_w {w t s : Nat} (hw : w ≤ 2147483648) (s0 : 0 < s) (hts : t ≤ s) : own_zp w (own_zq t s) ≤ w * own_U := own_zp_le (by omega) (by decide) (Nat.mul_le_mul_left _ (own_zq_one s0 hts))
theorem own_more {w t l : Nat} (hw : w ≤ 2147483648) (t0 : 0 < t) : own_zp w (own_zq t (t + l)) ≤ own_zp w (own_zq (t + 1) (t + 1 + l)) := by
  refine own_zp_mono hw (own_zq_mono (by omega) (by omega) (by omega) (by omega) ?_) (own_zq_one (by omega) (by omega))
  rw [Nat.mul_add, Nat.mul_add, Nat.add_mul, Nat.mul_add]
  omega
theorem own_longer {w t l : Nat} (hw : w ≤ 2147483648) (t0 : 0 < t) : own_zp w (own_zq t (t + (l + 1))) ≤ own_zp w (own_zq t (t + l)) :=
  own_zp_mono hw (own_zq_mono (by omega) (by omega) (by omega) (by omega) (Nat.mul_le_mul_left _ (by omega))) (own_zq_one (by omega) (by omega))
theorem own_eqU {w t : Nat} (hw : w ≤ 2147483648) (t0 : 0 < t) : own_zp w (own_zq t (t + 0)) = w * own_U := by
  rw [Nat.add_zero, own_zq_eq (k := 1074) t0 (by decide) (by rw [Nat.one_mul, Nat.mul_comm]; rfl)]
  exact own_zp_one (y := 0) hw 1074 (by decide)
theorem own_eqH {w t : Nat} (hw : w ≤ 2147483648) (t0 : 0 < t) : own_zp w (own_zq t (t + t)) = w * 2 ^ 1073 := by
  have hU : own_U = 2 * 2 ^ 1073 := own_Upow (a := 1) (n := 1074) rfl rfl
  rw [own_zq_eq (k := 1073) (by omega) (by decide) (by
    rw [hU, Nat.one_mul]
    generalize 2 ^ 1073 = K
    rw [Nat.mul_add, Nat.mul_comm K, ← Nat.mul_assoc, Nat.mul_comm t 2, Nat.mul_assoc]
    omega)]
  exact own_zp_one (y := 0) hw 1073 (by decide)
theorem own_eqQ {w t : Nat} (hw : w ≤ 2147483648) (t0 : 0 < t) : own_zp w (own_zq t (t + 3 * t)) = w * 2 ^ 1072 := by
  have hU : own_U = 4 * 2 ^ 1072 := own_Upow (a := 2) (n := 1074) rfl rfl
  rw [own_zq_eq (k := 1072) (by omega) (by decide) (by
    rw [hU, Nat.one_mul, show t + 3 * t = 4 * t by omega]
    generalize 2 ^ 1072 = K
    ac_rfl)]
  exact own_zp_one (y := 0) hw 1072 (by decide)
theorem own_rpos {w t l : Nat} {y : UInt64} (w0 : 0 < w) (t0 : 0 < t) (hs : t + l ≤ 4294967296) (hy : own_D y ((own_zq t (t + l) : Nat) : Int)) : 0 < own_zp w (own_zq t (t + l)) :=
  Nat.lt_of_lt_of_le (own_zq_pos t0 (by omega) hs) (own_zp_ge hy (Nat.le_mul_of_pos_left _ w0))
theorem own_ef1 (m : MethodId) (x0 : Int64) : entryFrame m #[(.long x0)] 2 = mkF m 0 #[.val (.long x0), .second] [] := by first | (simp [entryFrame, mkF, argsToLocals, Value.category]; done) | rfl
theorem own_d_jdk_29_61_0 : decode jdk_29_method_61_code 0 = .ok (.lload_n 0, 1) := by decide +kernel
theorem own_d_jdk_29_61_1 : decode jdk_29_method_61_code 1 = .ok (.lconst 0, 1) := by decide +kernel
theorem own_d_jdk_29_61_2 : decode jdk_29_method_61_code 2 = .ok (.lcmp, 1) := by decide +kernel
theorem own_d_jdk_29_61_3 : decode jdk_29_method_61_code 3 = .ok (.ifCond .ge 8, 3) := by decide +kernel
theorem own_d_jdk_29_61_6 : decode jdk_29_method_61_code 6 = .ok (.lload_n 0, 1) := by decide +kernel
theorem own_d_jdk_29_61_7 : decode jdk_29_method_61_code 7 = .ok (.lneg, 1) := by decide +kernel
theorem own_d_jdk_29_61_8 : decode jdk_29_method_61_code 8 = .ok (.goto 4, 3) := by decide +kernel
theorem own_d_jdk_29_61_12 : decode jdk_29_method_61_code 12 = .ok (.lreturn, 1) := by decide +kernel
theorem own_d_jdk_29_61_11 : decode jdk_29_method_61_code 11 = .ok (.lload_n 0, 1) := by decide +kernel
def own_Q_own_absJ (Z : State) (xa : Int64) (h0 : Heap) (n0 : Nat) (v : Option Value) (h : Heap) (L : List Loc) : Prop := v = some (.long (if xa < 0 then -xa else xa)) ∧ Fr n0 L ∧ h = h0
set_option maxRecDepth 65536 in
set_option maxHeartbeats 40000000 in
theorem own_absJ (l : Launch) (Z : State) (a0 : Array Value) (hw : ∀ d ∈ tables_1, d.before a0 Z = true) (ws : List Jvm.Cond) (xa : Int64) (h0 : Heap) (n0 : Nat) (Z0 : n0 ≤ h0.size)  :
    MetFree l (⟨"java/lang/Math", "abs", "(J)J"⟩ : MethodName) (head1 (Jvm.Cond.code (⟨"java/lang/Math", "abs", "(J)J"⟩ : MethodName) jdk_29_method_61_code 2 (some .long) :: ws) ({ frames := 0, cells := 0, slots := 0, locals := 0 } : Room)) (fun av_ U => av_ = #[(.long xa)] ∧ Z.Warmed39 U.vm ∧ U.heap = h0) (fun _ _ _ _ _ => True) (fun _ U o U' => ∃ v L, o = .returned v ∧ own_Q_own_absJ Z xa h0 n0 v U'.heap L ∧ FrameEnd U o U' L ({ frames := 0, cells := 0, slots := 0, locals := 0 } : Room).cells ({ frames := 0, cells := 0, slots := 0, locals := 0 } : Room).slots) := by
  refine MetFree.of_bodySF (by decide +kernel) hisR ?_
  intro p e s m args below meth c s₁ Bd hml0 hP hK
  obtain ⟨rfl, hZ, hh⟩ := hP
  have hx := Bd.exec
  have hby := Bd.bytes
  have hml : c.maxLocals = 2 := hml0
  have hown : s.vm.findClass "java/lang/Math" = some m.cls := findClass_of_methodNamed Bd.named
  have hnm := (name_of_methodNamed Bd.named Bd.method).1
  have X0 : Stand p l e ({ frames := 0, cells := 0, slots := 0, locals := 0 } : Room) s m #[(.long xa)] below meth c s₁ [] 0 0 := Stand.of_body Bd
  have e0 : s₁.heap = h0 := by rw [← hh, Bd.state]; rfl
  have N0 := Fr.nil n0
  suffices hgo : own_Go p e below (fun o U' => ∃ v L, o = .returned v ∧ own_Q_own_absJ Z xa h0 n0 v U'.heap L ∧ FrameEnd s o U' L ({ frames := 0, cells := 0, slots := 0, locals := 0 } : Room).cells ({ frames := 0, cells := 0, slots := 0, locals := 0 } : Room).slots) (s₁.setTop (mkF m 0 #[.val (.long xa), .second] [])) by
    obtain ⟨s₂, o, h1, h2, h3, h4⟩ := hgo
    exact ⟨s₂, o, castTop (own_ef1 m xa) h1, h2, h3, h4⟩
  show own_Go p e below _ (s₁.setTop (mkF m 0 #[.val (.long xa), .second] []))
  refine own_Go.st (fun _ kt => XS.lloadN X0.here hx rfl (hb hby own_d_jdk_29_61_0) rfl kt) ?_
  show own_Go p e below _ (s₁.setTop (mkF m 1 #[.val (.long xa), .second] [(.long xa)]))
  refine own_Go.st (fun _ kt => XS.lconst X0.here hx rfl (hb hby own_d_jdk_29_61_1) kt) ?_
  show own_Go p e below _ (s₁.setTop (mkF m 2 #[.val (.long xa), .second] [(.long (0 : Int64)), (.long xa)]))
  refine own_Go.st (fun _ kt => XS.lcmp X0.here hx rfl (hb hby own_d_jdk_29_61_2) rfl kt) ?_
  show own_Go p e below _ (s₁.setTop (mkF m 3 #[.val (.long xa), .second] [(.int (lcmpW xa (0 : Int64)))]))
  by_cases hc : xa < (0 : Int64)
  · refine own_Go.st (fun _ kt => XS.ifNo X0.here hx rfl (hb hby own_d_jdk_29_61_3) rfl ((if0 _ _).trans (tlt ((lw_lt _ _).mpr hc)).2.1) kt) ?_
    show own_Go p e below _ (s₁.setTop (mkF m 6 #[.val (.long xa), .second] []))
    refine own_Go.st (fun _ kt => XS.lloadN X0.here hx rfl (hb hby own_d_jdk_29_61_6) rfl kt) ?_
    show own_Go p e below _ (s₁.setTop (mkF m 7 #[.val (.long xa), .second] [(.long xa)]))
    refine own_Go.st (fun _ kt => XS.lneg X0.here hx rfl (hb hby own_d_jdk_29_61_7) rfl kt) ?_
    show own_Go p e below _ (s₁.setTop (mkF m 8 #[.val (.long xa), .second] [(.long (-xa))]))
    refine own_Go.st (fun _ kt => XS.goto X0.here hx rfl (pc0 := 8) (pc' := 12) rfl (hb hby own_d_jdk_29_61_8) (by decide) (by decide) kt) ?_
    show own_Go p e below _ (s₁.setTop (mkF m 12 #[.val (.long xa), .second] [(.long (-xa))]))
    exact own_retJ X0 hx Bd.notSynchronized Bd.returns (hb hby own_d_jdk_29_61_12) (by decide) (by decide) ⟨by simp [hc], N0, e0⟩
  · refine own_Go.st (fun _ kt => XS.ifYes X0.here hx rfl (pc0 := 3) (pc' := 11) rfl (hb hby own_d_jdk_29_61_3) rfl ((if0 _ _).trans (flt (mt (lw_lt _ _).mp hc)).2.1) (by decide) (by decide) kt) ?_
    show own_Go p e below _ (s₁.setTop (mkF m 11 #[.val (.long xa), .second] []))
    refine own_Go.st (fun _ kt => XS.lloadN X0.here hx rfl (hb hby own_d_jdk_29_61_11) rfl kt) ?_
    show own_Go p e below _ (s₁.setTop (mkF m 12 #[.val (.long xa), .second] [(.long xa)]))
    exact own_retJ X0 hx Bd.notSynchronized Bd.returns (hb hby own_d_jdk_29_61_12) (by decide) (by decide) ⟨by simp [hc], N0, e0⟩
theorem own_pn0 : plainName "com/example/passagewise/passagewise/search/Bm25Formula" = true := by first | (simp [plainName, overriddenIn]; done) | decide +kernel
theorem own_ef2 (m : MethodId) (x0 : UInt64) (x1 : UInt64) (x2 : UInt64) : entryFrame m #[(.double x0), (.double x1), (.double x2)] 6 = mkF m 0 #[.val (.double x0), .second, .val (.double x1), .second, .val (.double x2), .second] [] := by first | (simp [entryFrame, mkF, argsToLocals, Value.category]; done) | rfl
theorem own_d_prog_47_6_0 : decode prog_47_method_6_code 0 = .ok (.dload_n 2, 1) := by decide +kernel
theorem own_d_prog_47_6_1 : decode prog_47_method_6_code 1 = .ok (.dconst 0, 1) := by decide +kernel
theorem own_d_prog_47_6_2 : decode prog_47_method_6_code 2 = .ok (.dcmp .l, 1) := by decide +kernel
theorem own_d_prog_47_6_3 : decode prog_47_method_6_code 3 = .ok (.ifCond .le 14, 3) := by decide +kernel
theorem own_d_prog_47_6_6 : decode prog_47_method_6_code 6 = .ok (.dload_n 0, 1) := by decide +kernel
theorem own_d_prog_47_6_7 : decode prog_47_method_6_code 7 = .ok (.dload_n 2, 1) := by decide +kernel
theorem own_d_prog_47_6_8 : decode prog_47_method_6_code 8 = .ok (.dload_n 2, 1) := by decide +kernel
theorem own_d_prog_47_6_9 : decode prog_47_method_6_code 9 = .ok (.dload 4, 2) := by decide +kernel
theorem own_d_prog_47_6_11 : decode prog_47_method_6_code 11 = .ok (.dadd, 1) := by decide +kernel
theorem own_d_prog_47_6_12 : decode prog_47_method_6_code 12 = .ok (.ddiv, 1) := by decide +kernel
theorem own_d_prog_47_6_13 : decode prog_47_method_6_code 13 = .ok (.dmul, 1) := by decide +kernel
theorem own_d_prog_47_6_14 : decode prog_47_method_6_code 14 = .ok (.goto 4, 3) := by decide +kernel
theorem own_d_prog_47_6_18 : decode prog_47_method_6_code 18 = .ok (.dreturn, 1) := by decide +kernel
def own_Q_own_partP (Z : State) (xw xt xl : UInt64) (nw nt nl : Nat) (h0 : Heap) (n0 : Nat) (v : Option Value) (h : Heap) (L : List Loc) : Prop := ∃ (d y : UInt64), v = some (.double d) ∧ Fr n0 L ∧ own_D d ((own_zp nw (own_zq nt (nt + nl)) : Nat) : Int) ∧ own_D y ((own_zq nt (nt + nl) : Nat) : Int) ∧ h = h0
set_option maxRecDepth 65536 in
set_option maxHeartbeats 40000000 in
theorem own_partP (l : Launch) (Z : State) (a0 : Array Value) (hw : ∀ d ∈ tables_1, d.before a0 Z = true) (ws : List Jvm.Cond) (xw xt xl : UInt64) (nw nt nl : Nat) (h0 : Heap) (n0 : Nat) (Z0 : n0 ≤ h0.size) (dw : own_D xw ((nw * own_U : Nat) : Int)) (dt : own_D xt ((nt * own_U : Nat) : Int)) (dl : own_D xl ((nl * own_U : Nat) : Int)) (sw : Jvm.FP.Core.sgn (Jvm.FP.Core.val64 xw) = false) (t0 : 0 < nt) (bw : nw ≤ 2147483648) (bs : nt + nl ≤ 9000000000) :
    MetFree l (⟨"com/example/passagewise/passagewise/search/Bm25Formula", "part", "(DDD)D"⟩ : MethodName) (head1 (Jvm.Cond.code (⟨"com/example/passagewise/passagewise/search/Bm25Formula", "part", "(DDD)D"⟩ : MethodName) prog_47_method_6_code 6 (some .double) :: ws) ({ frames := 0, cells := 0, slots := 0, locals := 0 } : Room)) (fun av_ U => av_ = #[(.double xw), (.double xt), (.double xl)] ∧ Z.Warmed39 U.vm ∧ U.heap = h0) (fun _ _ _ _ _ => True) (fun _ U o U' => ∃ v L, o = .returned v ∧ own_Q_own_partP Z xw xt xl nw nt nl h0 n0 v U'.heap L ∧ FrameEnd U o U' L ({ frames := 0, cells := 0, slots := 0, locals := 0 } : Room).cells ({ frames := 0, cells := 0, slots := 0, locals := 0 } : Room).slots) := by
  refine MetFree.of_bodySF (plainFor_of_name own_pn0) hisR ?_
  intro p e s m args below meth c s₁ Bd hml0 hP hK
  obtain ⟨rfl, hZ, hh⟩ := hP
  have hx := Bd.exec
  have hby := Bd.bytes
  have hml : c.maxLocals = 6 := hml0
  have hown : s.vm.findClass "com/example/passagewise/passagewise/search/Bm25Formula" = some m.cls := findClass_of_methodNamed Bd.named
  have hnm := (name_of_methodNamed Bd.named Bd.method).1
  have X0 : Stand p l e ({ frames := 0, cells := 0, slots := 0, locals := 0 } : Room) s m #[(.double xw), (.double xt), (.double xl)] below meth c s₁ [] 0 0 := Stand.of_body Bd
  have e0 : s₁.heap = h0 := by rw [← hh, Bd.state]; rfl
  have N0 := Fr.nil n0
  suffices hgo : own_Go p e below (fun o U' => ∃ v L, o = .returned v ∧ own_Q_own_partP Z xw xt xl nw nt nl h0 n0 v U'.heap L ∧ FrameEnd s o U' L ({ frames := 0, cells := 0, slots := 0, locals := 0 } : Room).cells ({ frames := 0, cells := 0, slots := 0, locals := 0 } : Room).slots) (s₁.setTop (mkF m 0 #[.val (.double xw), .second, .val (.double xt), .second, .val (.double xl), .second] [])) by
    obtain ⟨s₂, o, h1, h2, h3, h4⟩ := hgo
    exact ⟨s₂, o, castTop (own_ef2 m xw xt xl) h1, h2, h3, h4⟩
  show own_Go p e below _ (s₁.setTop (mkF m 0 #[.val (.double xw), .second, .val (.double xt), .second, .val (.double xl), .second] []))
  refine own_Go.st (fun _ kt => XS.dloadN X0.here hx rfl (hb hby own_d_prog_47_6_0) rfl kt) ?_
  show own_Go p e below _ (s₁.setTop (mkF m 1 #[.val (.double xw), .second, .val (.double xt), .second, .val (.double xl), .second] [(.double xt)]))
  refine own_Go.st (fun _ kt => XS.dconst0 X0.here hx rfl (hb hby own_d_prog_47_6_1) rfl kt) ?_
  show own_Go p e below _ (s₁.setTop (mkF m 2 #[.val (.double xw), .second, .val (.double xt), .second, .val (.double xl), .second] [(.double FP.dconst0), (.double xt)]))
  have pt : (0 : Int) < ((nt * own_U : Nat) : Int) := Int.natCast_pos.mpr (Nat.mul_pos t0 own_Upos)
  have ds := own_addU dt dl (by omega)
  have ps : (0 : Int) < (((nt + nl) * own_U : Nat) : Int) := Int.natCast_pos.mpr (Nat.mul_pos (by omega) own_Upos)
  have pp := own_part dw dt ds sw (own_sgn_pos dt pt) (own_sgn_pos ds ps) t0 (by omega) bw
  refine own_Go.st (fun _ kt => XS.dcmpS X0.here hx rfl (hb hby own_d_prog_47_6_2) rfl (own_c1 dt own_zero pt _) kt) ?_
  show own_Go p e below _ (s₁.setTop (mkF m 3 #[.val (.double xw), .second, .val (.double xt), .second, .val (.double xl), .second] [(.int (1 : Int32))]))
  refine own_Go.st (fun _ kt => XS.ifNo X0.here hx rfl (hb hby own_d_prog_47_6_3) rfl ((if0 _ _).trans (tlt (by decide)).2.2.2) kt) ?_
  show own_Go p e below _ (s₁.setTop (mkF m 6 #[.val (.double xw), .second, .val (.double xt), .second, .val (.double xl), .second] []))
  refine own_Go.st (fun _ kt => XS.dloadN X0.here hx rfl (hb hby own_d_prog_47_6_6) rfl kt) ?_
  show own_Go p e below _ (s₁.setTop (mkF m 7 #[.val (.double xw), .second, .val (.double xt), .second, .val (.double xl), .second] [(.double xw)]))
  refine own_Go.st (fun _ kt => XS.dloadN X0.here hx rfl (hb hby own_d_prog_47_6_7) rfl kt) ?_
  show own_Go p e below _ (s₁.setTop (mkF m 8 #[.val (.double xw), .second, .val (.double xt), .second, .val (.double xl), .second] [(.double xt), (.double xw)]))
  refine own_Go.st (fun _ kt => XS.dloadN X0.here hx rfl (hb hby own_d_prog_47_6_8) rfl kt) ?_
  show own_Go p e below _ (s₁.setTop (mkF m 9 #[.val (.double xw), .second, .val (.double xt), .second, .val (.double xl), .second] [(.double xt), (.double xt), (.double xw)]))
  refine own_Go.st (fun _ kt => XS.dload X0.here hx rfl (hb hby own_d_prog_47_6_9) rfl kt) ?_
  show own_Go p e below _ (s₁.setTop (mkF m 11 #[.val (.double xw), .second, .val (.double xt), .second, .val (.double xl), .second] [(.double xl), (.double xt), (.double xt), (.double xw)]))
  refine own_Go.st (fun _ kt => XS.daddS X0.here hx rfl (hb hby own_d_prog_47_6_11) rfl (ds.n64) rfl kt) ?_
  show own_Go p e below _ (s₁.setTop (mkF m 12 #[.val (.double xw), .second, .val (.double xt), .second, .val (.double xl), .second] [(.double (FP.dadd xt xl)), (.double xt), (.double xw)]))
  refine own_Go.st (fun _ kt => XS.ddivS X0.here hx rfl (hb hby own_d_prog_47_6_12) rfl (pp.1.n64) rfl kt) ?_
  show own_Go p e below _ (s₁.setTop (mkF m 13 #[.val (.double xw), .second, .val (.double xt), .second, .val (.double xl), .second] [(.double (FP.ddiv xt (FP.dadd xt xl))), (.double xw)]))
  refine own_Go.st (fun _ kt => XS.dmulS X0.here hx rfl (hb hby own_d_prog_47_6_13) rfl (pp.2.n64) rfl kt) ?_
  show own_Go p e below _ (s₁.setTop (mkF m 14 #[.val (.double xw), .second, .val (.double xt), .second, .val (.double xl), .second] [(.double (FP.dmul xw (FP.ddiv xt (FP.dadd xt xl))))]))
  refine own_Go.st (fun _ kt => XS.goto X0.here hx rfl (pc0 := 14) (pc' := 18) rfl (hb hby own_d_prog_47_6_14) (by decide) (by decide) kt) ?_
  show own_Go p e below _ (s₁.setTop (mkF m 18 #[.val (.double xw), .second, .val (.double xt), .second, .val (.double xl), .second] [(.double (FP.dmul xw (FP.ddiv xt (FP.dadd xt xl))))]))
  exact own_retD X0 hx Bd.notSynchronized Bd.returns (hb hby own_d_prog_47_6_18) (by decide) (by decide) ⟨_, _, rfl, N0, pp.2, pp.1, e0⟩
theorem own_ef3 (m : MethodId) (x0 : UInt64) (x1 : UInt64) (x2 : UInt64) : entryFrame m #[(.double x0), (.double x1), (.double x2)] 6 = mkF m 0 #[.val (.double x0), .second, .val (.double x1), .second, .val (.double x2), .second] [] := by first | (simp [entryFrame, mkF, argsToLocals, Value.category]; done) | rfl
theorem own_d_prog_47_6_17 : decode prog_47_method_6_code 17 = .ok (.dconst 0, 1) := by decide +kernel
def own_Q_own_partZ (Z : State) (xw xl : UInt64) (h0 : Heap) (n0 : Nat) (v : Option Value) (h : Heap) (L : List Loc) : Prop := v = some (.double FP.dconst0) ∧ Fr n0 L ∧ h = h0
set_option maxRecDepth 65536 in
set_option maxHeartbeats 40000000 in
theorem own_partZ (l : Launch) (Z : State) (a0 : Array Value) (hw : ∀ d ∈ tables_1, d.before a0 Z = true) (ws : List Jvm.Cond) (xw xl : UInt64) (h0 : Heap) (n0 : Nat) (Z0 : n0 ≤ h0.size)  :
    MetFree l (⟨"com/example/passagewise/passagewise/search/Bm25Formula", "part", "(DDD)D"⟩ : MethodName) (head1 (Jvm.Cond.code (⟨"com/example/passagewise/passagewise/search/Bm25Formula", "part", "(DDD)D"⟩ : MethodName) prog_47_method_6_code 6 (some .double) :: ws) ({ frames := 0, cells := 0, slots := 0, locals := 0 } : Room)) (fun av_ U => av_ = #[(.double xw), (.double FP.dconst0), (.double xl)] ∧ Z.Warmed39 U.vm ∧ U.heap = h0) (fun _ _ _ _ _ => True) (fun _ U o U' => ∃ v L, o = .returned v ∧ own_Q_own_partZ Z xw xl h0 n0 v U'.heap L ∧ FrameEnd U o U' L ({ frames := 0, cells := 0, slots := 0, locals := 0 } : Room).cells ({ frames := 0, cells := 0, slots := 0, locals := 0 } : Room).slots) := by
  refine MetFree.of_bodySF (plainFor_of_name own_pn0) hisR ?_
  intro p e s m args below meth c s₁ Bd hml0 hP hK
  obtain ⟨rfl, hZ, hh⟩ := hP
  have hx := Bd.exec
  have hby := Bd.bytes
  have hml : c.maxLocals = 6 := hml0
  have hown : s.vm.findClass "com/example/passagewise/passagewise/search/Bm25Formula" = some m.cls := findClass_of_methodNamed Bd.named
  have hnm := (name_of_methodNamed Bd.named Bd.method).1
  have X0 : Stand p l e ({ frames := 0, cells := 0, slots := 0, locals := 0 } : Room) s m #[(.double xw), (.double FP.dconst0), (.double xl)] below meth c s₁ [] 0 0 := Stand.of_body Bd
  have e0 : s₁.heap = h0 := by rw [← hh, Bd.state]; rfl
  have N0 := Fr.nil n0
  suffices hgo : own_Go p e below (fun o U' => ∃ v L, o = .returned v ∧ own_Q_own_partZ Z xw xl h0 n0 v U'.heap L ∧ FrameEnd s o U' L ({ frames := 0, cells := 0, slots := 0, locals := 0 } : Room).cells ({ frames := 0, cells := 0, slots := 0, locals := 0 } : Room).slots) (s₁.setTop (mkF m 0 #[.val (.double xw), .second, .val (.double FP.dconst0), .second, .val (.double xl), .second] [])) by
    obtain ⟨s₂, o, h1, h2, h3, h4⟩ := hgo
    exact ⟨s₂, o, castTop (own_ef3 m xw FP.dconst0 xl) h1, h2, h3, h4⟩
  show own_Go p e below _ (s₁.setTop (mkF m 0 #[.val (.double xw), .second, .val (.double FP.dconst0), .second, .val (.double xl), .second] []))
  refine own_Go.st (fun _ kt => XS.dloadN X0.here hx rfl (hb hby own_d_prog_47_6_0) rfl kt) ?_
  show own_Go p e below _ (s₁.setTop (mkF m 1 #[.val (.double xw), .second, .val (.double FP.dconst0), .second, .val (.double xl), .second] [(.double FP.dconst0)]))
  refine own_Go.st (fun _ kt => XS.dconst0 X0.here hx rfl (hb hby own_d_prog_47_6_1) rfl kt) ?_
  show own_Go p e below _ (s₁.setTop (mkF m 2 #[.val (.double xw), .second, .val (.double FP.dconst0), .second, .val (.double xl), .second] [(.double FP.dconst0), (.double FP.dconst0)]))
  refine own_Go.st (fun _ kt => XS.dcmpS X0.here hx rfl (hb hby own_d_prog_47_6_2) rfl (own_deq own_zero own_zero _) kt) ?_
  show own_Go p e below _ (s₁.setTop (mkF m 3 #[.val (.double xw), .second, .val (.double FP.dconst0), .second, .val (.double xl), .second] [(.int (0 : Int32))]))
  refine own_Go.st (fun _ kt => XS.ifYes X0.here hx rfl (pc0 := 3) (pc' := 17) rfl (hb hby own_d_prog_47_6_3) rfl ((if0 _ _).trans (flt (by decide)).2.2.2) (by decide) (by decide) kt) ?_
  show own_Go p e below _ (s₁.setTop (mkF m 17 #[.val (.double xw), .second, .val (.double FP.dconst0), .second, .val (.double xl), .second] []))
  refine own_Go.st (fun _ kt => XS.dconst0 X0.here hx rfl (hb hby own_d_prog_47_6_17) rfl kt) ?_
  show own_Go p e below _ (s₁.setTop (mkF m 18 #[.val (.double xw), .second, .val (.double FP.dconst0), .second, .val (.double xl), .second] [(.double FP.dconst0)]))
  exact own_retD X0 hx Bd.notSynchronized Bd.returns (hb hby own_d_prog_47_6_18) (by decide) (by decide) ⟨rfl, N0, e0⟩
theorem own_pn1 : plainName "com/example/passagewise/passagewise/search/Bm25FormulaPartPinLaw" = true := by first | (simp [plainName, overriddenIn]; done) | decide +kernel
theorem own_ef4 (m : MethodId) (x0 : Int32) (x1 : Int32) (x2 : Int32) (x3 : Int32) : entryFrame m #[(.int x0), (.int x1), (.int x2), (.int x3)] maxLocals = mkF m 0 #[.val (.int x0), .val (.int x1), .val (.int x2), .val (.int x3), .unset, .unset, .unset, .unset, .unset, .unset, .unset, .unset, .unset, .unset, .unset, .unset, .unset, .unset, .unset] [] := by first | (simp [entryFrame, mkF, argsToLocals, Value.category, maxLocals]; done) | rfl
theorem own_pd0 : parseMethodDescriptor "(J)J" = some ⟨[.long], some .long⟩ := by decide +kernel
theorem own_pd1 : parseMethodDescriptor "(DDD)D" = some ⟨[.double, .double, .double], some .double⟩ := by decide +kernel
def own_Q_own_law (Z : State) (p0 p1 p2 p3 : Int32) (h0 : Heap) (n0 : Nat) (v : Option Value) (h : Heap) (L : List Loc) : Prop := v = some (.int 1) ∧ Fr n0 L
set_option maxRecDepth 65536 in
set_option maxHeartbeats 40000000 in
theorem own_law (l : Launch) (Z : State) (a0 : Array Value) (hw : ∀ d ∈ tables_1, d.before a0 Z = true) (ws : List Jvm.Cond) (p0 p1 p2 p3 : Int32) (h0 : Heap) (n0 : Nat) (Z0 : n0 ≤ h0.size)  :
    MetFree l x (head1 (Jvm.Cond.code x code maxLocals ret :: ws) room_1) (fun av_ U => av_ = #[(.int p0), (.int p1), (.int p2), (.int p3)] ∧ Z.Warmed39 U.vm ∧ U.heap = h0) (fun _ _ _ _ _ => True) (fun _ U o U' => ∃ v L, o = .returned v ∧ own_Q_own_law Z p0 p1 p2 p3 h0 n0 v U'.heap L ∧ FrameEnd U o U' L room_1.cells room_1.slots) := by
  refine MetFree.of_bodySF (plainFor_of_name own_pn1) hisR ?_
  intro p e s m args below meth c s₁ Bd hml0 hP hK
  obtain ⟨rfl, hZ, hh⟩ := hP
  have hx := Bd.exec
  have hby := Bd.bytes
  have hml : c.maxLocals = 19 := hml0
  have hown : s.vm.findClass "com/example/passagewise/passagewise/search/Bm25FormulaPartPinLaw" = some m.cls := findClass_of_methodNamed Bd.named
  have hnm := (name_of_methodNamed Bd.named Bd.method).1
  have X0 : Stand p l e room_1 s m #[(.int p0), (.int p1), (.int p2), (.int p3)] below meth c s₁ [] 0 0 := Stand.of_body Bd
  have e0 : s₁.heap = h0 := by rw [← hh, Bd.state]; rfl
  have N0 := Fr.nil n0
  suffices hgo : own_Go p e below (fun o U' => ∃ v L, o = .returned v ∧ own_Q_own_law Z p0 p1 p2 p3 h0 n0 v U'.heap L ∧ FrameEnd s o U' L room_1.cells room_1.slots) (s₁.setTop (mkF m 0 #[.val (.int p0), .val (.int p1), .val (.int p2), .val (.int p3), .unset, .unset, .unset, .unset, .unset, .unset, .unset, .unset, .unset, .unset, .unset, .unset, .unset, .unset, .unset] [])) by
    obtain ⟨s₂, o, h1, h2, h3, h4⟩ := hgo
    exact ⟨s₂, o, castTop (own_ef4 m p0 p1 p2 p3) h1, h2, h3, h4⟩
  show own_Go p e below _ (s₁.setTop (mkF m 0 #[.val (.int p0), .val (.int p1), .val (.int p2), .val (.int p3), .unset, .unset, .unset, .unset, .unset, .unset, .unset, .unset, .unset, .unset, .unset, .unset, .unset, .unset, .unset] []))
  refine own_Go.st (fun _ kt => XS.iloadN X0.here hx rfl (hb hby at_0) rfl kt) ?_
  show own_Go p e below _ (s₁.setTop (mkF m 1 #[.val (.int p0), .val (.int p1), .val (.int p2), .val (.int p3), .unset, .unset, .unset, .unset, .unset, .unset, .unset, .unset, .unset, .unset, .unset, .unset, .unset, .unset, .unset] [(.int p0)]))
  refine own_Go.st (fun _ kt => XS.i2l X0.here hx rfl (hb hby at_1) rfl kt) ?_
  show own_Go p e below _ (s₁.setTop (mkF m 2 #[.val (.int p0), .val (.int p1), .val (.int p2), .val (.int p3), .unset, .unset, .unset, .unset, .unset, .unset, .unset, .unset, .unset, .unset, .unset, .unset, .unset, .unset, .unset] [(.long (p0.toInt64))]))
  obtain ⟨_, _, ⟨T1, L1, k1, n1⟩, -, X1, ⟨Lc1, hQ1, l1, y1, z1⟩, st1⟩ := Jvm.LawKit.callS X0 hx (y := (⟨"java/lang/Math", "abs", "(J)J"⟩ : MethodName)) hown (mvT hZ (hw _ (List.mem_of_getElem? (i := 0) rfl))) (mvT hZ (hw _ (List.mem_of_getElem? (i := 1) rfl))) (mvT hZ (hw _ (List.mem_of_getElem? (i := 2) rfl))) (mvT hZ (hw _ (List.mem_of_getElem? (i := 3) rfl))) (by decide) (backOf (W := 0) (own_absJ l Z a0 hw [] p0.toInt64 h0 n0 Z0 ) hZ (hw _ (List.mem_of_getElem? (i := 3) rfl)) (hw _ (List.mem_of_getElem? (i := 2) rfl)) (by decide) (by decide)) (g := (mkF m 2 #[.val (.int p0), .val (.int p1), .val (.int p2), .val (.int p3), .unset, .unset, .unset, .unset, .unset, .unset, .unset, .unset, .unset, .unset, .unset, .unset, .unset, .unset, .unset] [(.long (p0.toInt64))])) rfl (by rw [hml]; rfl) (argsL := [(.long (p0.toInt64))]) (rest := []) (lenOf own_pd0 rfl) rfl (by show 2 * 0 + _ ≤ _; exact Nat.le_of_eq rfl) (hb hby at_2) (fun _ _ => ⟨rfl, e0, (by decide : 0 + 0 ≤ _), (by decide : 0 + 0 ≤ _)⟩)
  dsimp only [Pt.U, Pt.locs, Pt.cells, Pt.slots] at X1 l1 y1 z1 st1 hQ1
  subst l1 y1 z1
  obtain ⟨rfl, N1q, hh1⟩ := hQ1
  have N1 := Fr.app N0 N1q
  refine own_Go.st (fun _ kt => st1 _ kt) ?_
  show own_Go p e below _ (T1.setTop (mkF m 5 #[.val (.int p0), .val (.int p1), .val (.int p2), .val (.int p3), .unset, .unset, .unset, .unset, .unset, .unset, .unset, .unset, .unset, .unset, .unset, .unset, .unset, .unset, .unset] [(.long (if p0.toInt64 < 0 then -p0.toInt64 else p0.toInt64))]))
  obtain ⟨nw, hnw, bw⟩ : ∃ n : Nat, (if p0.toInt64 < 0 then -p0.toInt64 else p0.toInt64).toInt = (n : Int) ∧ n ≤ 2147483648 := by
    have r := rng32 p0
    have q := c_i2l p0
    have q2 := c_lneg p0.toInt64
    have r2 := rng64 (-p0.toInt64)
    by_cases g : p0.toInt64 < 0
    · have g' := g
      rw [Int64.lt_iff_toInt_lt, show (0 : Int64).toInt = 0 by decide] at g'
      simp only [g, if_true]
      exact ⟨(-p0.toInt64).toInt.toNat, by omega, by omega⟩
    · have g' := g
      rw [Int64.lt_iff_toInt_lt, show (0 : Int64).toInt = 0 by decide] at g'
      simp only [g, if_false]
      exact ⟨p0.toInt64.toInt.toNat, by omega, by omega⟩
  generalize (if p0.toInt64 < 0 then -p0.toInt64 else p0.toInt64) = xa at hnw ⊢
  show own_Go p e below _ (T1.setTop (mkF m 5 #[.val (.int p0), .val (.int p1), .val (.int p2), .val (.int p3), .unset, .unset, .unset, .unset, .unset, .unset, .unset, .unset, .unset, .unset, .unset, .unset, .unset, .unset, .unset] [(.long xa)]))
  refine own_Go.st (fun _ kt => XS.l2dS X1.here hx rfl (hb hby at_5) rfl rfl kt) ?_
  show own_Go p e below _ (T1.setTop (mkF m 6 #[.val (.int p0), .val (.int p1), .val (.int p2), .val (.int p3), .unset, .unset, .unset, .unset, .unset, .unset, .unset, .unset, .unset, .unset, .unset, .unset, .unset, .unset, .unset] [(.double (FP.l2d xa))]))
  have dw := own_l2dN hnw (by omega)
  have sw := own_sgn_l2d (a := xa) (by omega)
  generalize FP.l2d xa = xw at dw sw ⊢
  show own_Go p e below _ (T1.setTop (mkF m 6 #[.val (.int p0), .val (.int p1), .val (.int p2), .val (.int p3), .unset, .unset, .unset, .unset, .unset, .unset, .unset, .unset, .unset, .unset, .unset, .unset, .unset, .unset, .unset] [(.double xw)]))
  refine own_Go.st (fun _ kt => XS.dstore X1.here hx rfl (hb hby at_6) rfl (l' := #[.val (.int p0), .val (.int p1), .val (.int p2), .val (.int p3), .val (.double xw), .second, .unset, .unset, .unset, .unset, .unset, .unset, .unset, .unset, .unset, .unset, .unset, .unset, .unset]) rfl kt) ?_
  show own_Go p e below _ (T1.setTop (mkF m 8 #[.val (.int p0), .val (.int p1), .val (.int p2), .val (.int p3), .val (.double xw), .second, .unset, .unset, .unset, .unset, .unset, .unset, .unset, .unset, .unset, .unset, .unset, .unset, .unset] []))
  refine own_Go.st (fun _ kt => XS.iloadN X1.here hx rfl (hb hby at_8) rfl kt) ?_
  show own_Go p e below _ (T1.setTop (mkF m 9 #[.val (.int p0), .val (.int p1), .val (.int p2), .val (.int p3), .val (.double xw), .second, .unset, .unset, .unset, .unset, .unset, .unset, .unset, .unset, .unset, .unset, .unset, .unset, .unset] [(.int p1)]))
  refine own_Go.st (fun _ kt => X1.ldcI hx hown (mvT hZ (hw _ (List.mem_of_getElem? (i := 4) rfl))) rfl (hb hby at_9) kt) ?_
  show own_Go p e below _ (T1.setTop (mkF m 11 #[.val (.int p0), .val (.int p1), .val (.int p2), .val (.int p3), .val (.double xw), .second, .unset, .unset, .unset, .unset, .unset, .unset, .unset, .unset, .unset, .unset, .unset, .unset, .unset] [(.int (1073741823 : Int32)), (.int p1)]))
  refine own_Go.st (fun _ kt => XS.iand X1.here hx rfl (hb hby at_11) rfl kt) ?_
  show own_Go p e below _ (T1.setTop (mkF m 12 #[.val (.int p0), .val (.int p1), .val (.int p2), .val (.int p3), .val (.double xw), .second, .unset, .unset, .unset, .unset, .unset, .unset, .unset, .unset, .unset, .unset, .unset, .unset, .unset] [(.int (p1 &&& (1073741823 : Int32)))]))
  refine own_Go.st (fun _ kt => XS.iconst X1.here hx rfl (hb hby at_12) kt) ?_
  show own_Go p e below _ (T1.setTop (mkF m 13 #[.val (.int p0), .val (.int p1), .val (.int p2), .val (.int p3), .val (.double xw), .second, .unset, .unset, .unset, .unset, .unset, .unset, .unset, .unset, .unset, .unset, .unset, .unset, .unset] [(.int (1 : Int32)), (.int (p1 &&& (1073741823 : Int32)))]))
  refine own_Go.st (fun _ kt => XS.iadd X1.here hx rfl (hb hby at_13) rfl kt) ?_
  show own_Go p e below _ (T1.setTop (mkF m 14 #[.val (.int p0), .val (.int p1), .val (.int p2), .val (.int p3), .val (.double xw), .second, .unset, .unset, .unset, .unset, .unset, .unset, .unset, .unset, .unset, .unset, .unset, .unset, .unset] [(.int ((p1 &&& (1073741823 : Int32)) + (1 : Int32)))]))
  obtain ⟨nt, hnt, t0, bt⟩ : ∃ n : Nat, (((p1 &&& (1073741823 : Int32)) + (1 : Int32))).toInt = (n : Int) ∧ 0 < n ∧ n ≤ 1073741824 := by
    have h1 := c_mask p1 1073741823 30 (by decide) (by decide)
    have h2 := c_iadd (p1 &&& 1073741823) 1
    have h3 := rng32 ((p1 &&& 1073741823) + 1)
    rw [show (1 : Int32).toInt = 1 by decide] at h2
    exact ⟨((p1 &&& 1073741823) + 1).toInt.toNat, by omega, by omega, by omega⟩
  generalize ((p1 &&& (1073741823 : Int32)) + (1 : Int32)) = xi at hnt ⊢
  show own_Go p e below _ (T1.setTop (mkF m 14 #[.val (.int p0), .val (.int p1), .val (.int p2), .val (.int p3), .val (.double xw), .second, .unset, .unset, .unset, .unset, .unset, .unset, .unset, .unset, .unset, .unset, .unset, .unset, .unset] [(.int xi)]))
  refine own_Go.st (fun _ kt => XS.istore X1.here hx rfl (hb hby at_14) rfl (l' := #[.val (.int p0), .val (.int p1), .val (.int p2), .val (.int p3), .val (.double xw), .second, .val (.int xi), .unset, .unset, .unset, .unset, .unset, .unset, .unset, .unset, .unset, .unset, .unset, .unset]) rfl kt) ?_
  show own_Go p e below _ (T1.setTop (mkF m 16 #[.val (.int p0), .val (.int p1), .val (.int p2), .val (.int p3), .val (.double xw), .second, .val (.int xi), .unset, .unset, .unset, .unset, .unset, .unset, .unset, .unset, .unset, .unset, .unset, .unset] []))
  refine own_Go.st (fun _ kt => XS.iload X1.here hx rfl (hb hby at_16) rfl kt) ?_
  show own_Go p e below _ (T1.setTop (mkF m 18 #[.val (.int p0), .val (.int p1), .val (.int p2), .val (.int p3), .val (.double xw), .second, .val (.int xi), .unset, .unset, .unset, .unset, .unset, .unset, .unset, .unset, .unset, .unset, .unset, .unset] [(.int xi)]))
  refine own_Go.st (fun _ kt => XS.i2dS X1.here hx rfl (hb hby at_18) rfl rfl kt) ?_
  show own_Go p e below _ (T1.setTop (mkF m 19 #[.val (.int p0), .val (.int p1), .val (.int p2), .val (.int p3), .val (.double xw), .second, .val (.int xi), .unset, .unset, .unset, .unset, .unset, .unset, .unset, .unset, .unset, .unset, .unset, .unset] [(.double (FP.i2d xi))]))
  have dt := own_i2dN hnt
  generalize FP.i2d xi = xt at dt ⊢
  show own_Go p e below _ (T1.setTop (mkF m 19 #[.val (.int p0), .val (.int p1), .val (.int p2), .val (.int p3), .val (.double xw), .second, .val (.int xi), .unset, .unset, .unset, .unset, .unset, .unset, .unset, .unset, .unset, .unset, .unset, .unset] [(.double xt)]))
  refine own_Go.st (fun _ kt => XS.dstore X1.here hx rfl (hb hby at_19) rfl (l' := #[.val (.int p0), .val (.int p1), .val (.int p2), .val (.int p3), .val (.double xw), .second, .val (.int xi), .val (.double xt), .second, .unset, .unset, .unset, .unset, .unset, .unset, .unset, .unset, .unset, .unset]) rfl kt) ?_
  show own_Go p e below _ (T1.setTop (mkF m 21 #[.val (.int p0), .val (.int p1), .val (.int p2), .val (.int p3), .val (.double xw), .second, .val (.int xi), .val (.double xt), .second, .unset, .unset, .unset, .unset, .unset, .unset, .unset, .unset, .unset, .unset] []))
  refine own_Go.st (fun _ kt => XS.iloadN X1.here hx rfl (hb hby at_21) rfl kt) ?_
  show own_Go p e below _ (T1.setTop (mkF m 22 #[.val (.int p0), .val (.int p1), .val (.int p2), .val (.int p3), .val (.double xw), .second, .val (.int xi), .val (.double xt), .second, .unset, .unset, .unset, .unset, .unset, .unset, .unset, .unset, .unset, .unset] [(.int p2)]))
  refine own_Go.st (fun _ kt => X1.ldcI hx hown (mvT hZ (hw _ (List.mem_of_getElem? (i := 4) rfl))) rfl (hb hby at_22) kt) ?_
  show own_Go p e below _ (T1.setTop (mkF m 24 #[.val (.int p0), .val (.int p1), .val (.int p2), .val (.int p3), .val (.double xw), .second, .val (.int xi), .val (.double xt), .second, .unset, .unset, .unset, .unset, .unset, .unset, .unset, .unset, .unset, .unset] [(.int (1073741823 : Int32)), (.int p2)]))
  refine own_Go.st (fun _ kt => XS.iand X1.here hx rfl (hb hby at_24) rfl kt) ?_
  show own_Go p e below _ (T1.setTop (mkF m 25 #[.val (.int p0), .val (.int p1), .val (.int p2), .val (.int p3), .val (.double xw), .second, .val (.int xi), .val (.double xt), .second, .unset, .unset, .unset, .unset, .unset, .unset, .unset, .unset, .unset, .unset] [(.int (p2 &&& (1073741823 : Int32)))]))
  obtain ⟨nl, hnl, bl⟩ : ∃ n : Nat, ((p2 &&& (1073741823 : Int32))).toInt = (n : Int) ∧ n < 1073741824 := by
    have h1 := c_mask p2 1073741823 30 (by decide) (by decide)
    exact ⟨(p2 &&& 1073741823).toInt.toNat, by omega, by omega⟩
  generalize (p2 &&& (1073741823 : Int32)) = xj at hnl ⊢
  show own_Go p e below _ (T1.setTop (mkF m 25 #[.val (.int p0), .val (.int p1), .val (.int p2), .val (.int p3), .val (.double xw), .second, .val (.int xi), .val (.double xt), .second, .unset, .unset, .unset, .unset, .unset, .unset, .unset, .unset, .unset, .unset] [(.int xj)]))
  refine own_Go.st (fun _ kt => XS.i2dS X1.here hx rfl (hb hby at_25) rfl rfl kt) ?_
  show own_Go p e below _ (T1.setTop (mkF m 26 #[.val (.int p0), .val (.int p1), .val (.int p2), .val (.int p3), .val (.double xw), .second, .val (.int xi), .val (.double xt), .second, .unset, .unset, .unset, .unset, .unset, .unset, .unset, .unset, .unset, .unset] [(.double (FP.i2d xj))]))
  have dl := own_i2dN hnl
  generalize FP.i2d xj = xl at dl ⊢
  show own_Go p e below _ (T1.setTop (mkF m 26 #[.val (.int p0), .val (.int p1), .val (.int p2), .val (.int p3), .val (.double xw), .second, .val (.int xi), .val (.double xt), .second, .unset, .unset, .unset, .unset, .unset, .unset, .unset, .unset, .unset, .unset] [(.double xl)]))
  refine own_Go.st (fun _ kt => XS.dstore X1.here hx rfl (hb hby at_26) rfl (l' := #[.val (.int p0), .val (.int p1), .val (.int p2), .val (.int p3), .val (.double xw), .second, .val (.int xi), .val (.double xt), .second, .val (.double xl), .second, .unset, .unset, .unset, .unset, .unset, .unset, .unset, .unset]) rfl kt) ?_
  show own_Go p e below _ (T1.setTop (mkF m 28 #[.val (.int p0), .val (.int p1), .val (.int p2), .val (.int p3), .val (.double xw), .second, .val (.int xi), .val (.double xt), .second, .val (.double xl), .second, .unset, .unset, .unset, .unset, .unset, .unset, .unset, .unset] []))
  refine own_Go.st (fun _ kt => XS.dload X1.here hx rfl (hb hby at_28) rfl kt) ?_
  show own_Go p e below _ (T1.setTop (mkF m 30 #[.val (.int p0), .val (.int p1), .val (.int p2), .val (.int p3), .val (.double xw), .second, .val (.int xi), .val (.double xt), .second, .val (.double xl), .second, .unset, .unset, .unset, .unset, .unset, .unset, .unset, .unset] [(.double xw)]))
  refine own_Go.st (fun _ kt => XS.dload X1.here hx rfl (hb hby at_30) rfl kt) ?_
  show own_Go p e below _ (T1.setTop (mkF m 32 #[.val (.int p0), .val (.int p1), .val (.int p2), .val (.int p3), .val (.double xw), .second, .val (.int xi), .val (.double xt), .second, .val (.double xl), .second, .unset, .unset, .unset, .unset, .unset, .unset, .unset, .unset] [(.double xt), (.double xw)]))
  refine own_Go.st (fun _ kt => XS.dload X1.here hx rfl (hb hby at_32) rfl kt) ?_
  show own_Go p e below _ (T1.setTop (mkF m 34 #[.val (.int p0), .val (.int p1), .val (.int p2), .val (.int p3), .val (.double xw), .second, .val (.int xi), .val (.double xt), .second, .val (.double xl), .second, .unset, .unset, .unset, .unset, .unset, .unset, .unset, .unset] [(.double xl), (.double xt), (.double xw)]))
  obtain ⟨_, _, ⟨T2, L2, k2, n2⟩, -, X2, ⟨Lc2, hQ2, l2, y2, z2⟩, st2⟩ := Jvm.LawKit.callS X1 hx (y := (⟨"com/example/passagewise/passagewise/search/Bm25Formula", "part", "(DDD)D"⟩ : MethodName)) hown (mvT hZ (hw _ (List.mem_of_getElem? (i := 5) rfl))) (mvT hZ (hw _ (List.mem_of_getElem? (i := 6) rfl))) (mvT hZ (hw _ (List.mem_of_getElem? (i := 7) rfl))) (mvT hZ (hw _ (List.mem_of_getElem? (i := 8) rfl))) (by decide) (backOf (W := 0) (own_partP l Z a0 hw [] xw xt xl nw nt nl h0 n0 Z0 dw dt dl sw t0 bw (by omega)) hZ (hw _ (List.mem_of_getElem? (i := 8) rfl)) (hw _ (List.mem_of_getElem? (i := 7) rfl)) (by decide) (by decide)) (g := (mkF m 34 #[.val (.int p0), .val (.int p1), .val (.int p2), .val (.int p3), .val (.double xw), .second, .val (.int xi), .val (.double xt), .second, .val (.double xl), .second, .unset, .unset, .unset, .unset, .unset, .unset, .unset, .unset] [(.double xl), (.double xt), (.double xw)])) rfl (by rw [hml]; rfl) (argsL := [(.double xw), (.double xt), (.double xl)]) (rest := []) (lenOf own_pd1 rfl) rfl (by show 2 * 0 + _ ≤ _; exact Nat.le_of_eq rfl) (hb hby at_34) (fun _ _ => ⟨rfl, hh1, (by decide : 0 + 0 ≤ _), (by decide : 0 + 0 ≤ _)⟩)
  dsimp only [Pt.U, Pt.locs, Pt.cells, Pt.slots] at X2 l2 y2 z2 st2 hQ2
  subst l2 y2 z2
  obtain ⟨d1, y1, rfl, N2q, r1, q1, hh2⟩ := hQ2
  have N2 := Fr.app N1 N2q
  refine own_Go.st (fun _ kt => st2 _ kt) ?_
  show own_Go p e below _ (T2.setTop (mkF m 37 #[.val (.int p0), .val (.int p1), .val (.int p2), .val (.int p3), .val (.double xw), .second, .val (.int xi), .val (.double xt), .second, .val (.double xl), .second, .unset, .unset, .unset, .unset, .unset, .unset, .unset, .unset] [(.double d1)]))
  refine own_Go.st (fun _ kt => XS.dstore X2.here hx rfl (hb hby at_37) rfl (l' := #[.val (.int p0), .val (.int p1), .val (.int p2), .val (.int p3), .val (.double xw), .second, .val (.int xi), .val (.double xt), .second, .val (.double xl), .second, .val (.double d1), .second, .unset, .unset, .unset, .unset, .unset, .unset]) rfl kt) ?_
  show own_Go p e below _ (T2.setTop (mkF m 39 #[.val (.int p0), .val (.int p1), .val (.int p2), .val (.int p3), .val (.double xw), .second, .val (.int xi), .val (.double xt), .second, .val (.double xl), .second, .val (.double d1), .second, .unset, .unset, .unset, .unset, .unset, .unset] []))
  refine own_Go.st (fun _ kt => XS.dload X2.here hx rfl (hb hby at_39) rfl kt) ?_
  show own_Go p e below _ (T2.setTop (mkF m 41 #[.val (.int p0), .val (.int p1), .val (.int p2), .val (.int p3), .val (.double xw), .second, .val (.int xi), .val (.double xt), .second, .val (.double xl), .second, .val (.double d1), .second, .unset, .unset, .unset, .unset, .unset, .unset] [(.double xw)]))
  refine own_Go.st (fun _ kt => XS.dload X2.here hx rfl (hb hby at_41) rfl kt) ?_
  show own_Go p e below _ (T2.setTop (mkF m 43 #[.val (.int p0), .val (.int p1), .val (.int p2), .val (.int p3), .val (.double xw), .second, .val (.int xi), .val (.double xt), .second, .val (.double xl), .second, .val (.double d1), .second, .unset, .unset, .unset, .unset, .unset, .unset] [(.double xt), (.double xw)]))
  refine own_Go.st (fun _ kt => XS.dconst1 X2.here hx rfl (hb hby at_43) rfl kt) ?_
  show own_Go p e below _ (T2.setTop (mkF m 44 #[.val (.int p0), .val (.int p1), .val (.int p2), .val (.int p3), .val (.double xw), .second, .val (.int xi), .val (.double xt), .second, .val (.double xl), .second, .val (.double d1), .second, .unset, .unset, .unset, .unset, .unset, .unset] [(.double FP.dconst1), (.double xt), (.double xw)]))
  have dt1 := own_addU dt own_one (by omega)
  refine own_Go.st (fun _ kt => XS.daddS X2.here hx rfl (hb hby at_44) rfl (dt1.n64) rfl kt) ?_
  show own_Go p e below _ (T2.setTop (mkF m 45 #[.val (.int p0), .val (.int p1), .val (.int p2), .val (.int p3), .val (.double xw), .second, .val (.int xi), .val (.double xt), .second, .val (.double xl), .second, .val (.double d1), .second, .unset, .unset, .unset, .unset, .unset, .unset] [(.double (FP.dadd xt FP.dconst1)), (.double xw)]))
  refine own_Go.st (fun _ kt => XS.dload X2.here hx rfl (hb hby at_45) rfl kt) ?_
  show own_Go p e below _ (T2.setTop (mkF m 47 #[.val (.int p0), .val (.int p1), .val (.int p2), .val (.int p3), .val (.double xw), .second, .val (.int xi), .val (.double xt), .second, .val (.double xl), .second, .val (.double d1), .second, .unset, .unset, .unset, .unset, .unset, .unset] [(.double xl), (.double (FP.dadd xt FP.dconst1)), (.double xw)]))
  obtain ⟨_, _, ⟨T3, L3, k3, n3⟩, -, X3, ⟨Lc3, hQ3, l3, y3, z3⟩, st3⟩ := Jvm.LawKit.callS X2 hx (y := (⟨"com/example/passagewise/passagewise/search/Bm25Formula", "part", "(DDD)D"⟩ : MethodName)) hown (mvT hZ (hw _ (List.mem_of_getElem? (i := 5) rfl))) (mvT hZ (hw _ (List.mem_of_getElem? (i := 6) rfl))) (mvT hZ (hw _ (List.mem_of_getElem? (i := 7) rfl))) (mvT hZ (hw _ (List.mem_of_getElem? (i := 8) rfl))) (by decide) (backOf (W := 0) (own_partP l Z a0 hw [] xw (FP.dadd xt FP.dconst1) xl nw (nt + 1) nl h0 n0 Z0 dw dt1 dl sw (Nat.succ_pos _) bw (by omega)) hZ (hw _ (List.mem_of_getElem? (i := 8) rfl)) (hw _ (List.mem_of_getElem? (i := 7) rfl)) (by decide) (by decide)) (g := (mkF m 47 #[.val (.int p0), .val (.int p1), .val (.int p2), .val (.int p3), .val (.double xw), .second, .val (.int xi), .val (.double xt), .second, .val (.double xl), .second, .val (.double d1), .second, .unset, .unset, .unset, .unset, .unset, .unset] [(.double xl), (.double (FP.dadd xt FP.dconst1)), (.double xw)])) rfl (by rw [hml]; rfl) (argsL := [(.double xw), (.double (FP.dadd xt FP.dconst1)), (.double xl)]) (rest := []) (lenOf own_pd1 rfl) rfl (by show 2 * 0 + _ ≤ _; exact Nat.le_of_eq rfl) (hb hby at_47) (fun _ _ => ⟨rfl, hh2, (by decide : 0 + 0 ≤ _), (by decide : 0 + 0 ≤ _)⟩)
  dsimp only [Pt.U, Pt.locs, Pt.cells, Pt.slots] at X3 l3 y3 z3 st3 hQ3
  subst l3 y3 z3
  obtain ⟨d2, y2, rfl, N3q, r2, q2, hh3⟩ := hQ3
  have N3 := Fr.app N2 N3q
  refine own_Go.st (fun _ kt => st3 _ kt) ?_
  show own_Go p e below _ (T3.setTop (mkF m 50 #[.val (.int p0), .val (.int p1), .val (.int p2), .val (.int p3), .val (.double xw), .second, .val (.int xi), .val (.double xt), .second, .val (.double xl), .second, .val (.double d1), .second, .unset, .unset, .unset, .unset, .unset, .unset] [(.double d2)]))
  refine own_Go.st (fun _ kt => XS.dstore X3.here hx rfl (hb hby at_50) rfl (l' := #[.val (.int p0), .val (.int p1), .val (.int p2), .val (.int p3), .val (.double xw), .second, .val (.int xi), .val (.double xt), .second, .val (.double xl), .second, .val (.double d1), .second, .val (.double d2), .second, .unset, .unset, .unset, .unset]) rfl kt) ?_
  show own_Go p e below _ (T3.setTop (mkF m 52 #[.val (.int p0), .val (.int p1), .val (.int p2), .val (.int p3), .val (.double xw), .second, .val (.int xi), .val (.double xt), .second, .val (.double xl), .second, .val (.double d1), .second, .val (.double d2), .second, .unset, .unset, .unset, .unset] []))
  refine own_Go.st (fun _ kt => XS.dload X3.here hx rfl (hb hby at_52) rfl kt) ?_
  show own_Go p e below _ (T3.setTop (mkF m 54 #[.val (.int p0), .val (.int p1), .val (.int p2), .val (.int p3), .val (.double xw), .second, .val (.int xi), .val (.double xt), .second, .val (.double xl), .second, .val (.double d1), .second, .val (.double d2), .second, .unset, .unset, .unset, .unset] [(.double xw)]))
  refine own_Go.st (fun _ kt => XS.dload X3.here hx rfl (hb hby at_54) rfl kt) ?_
  show own_Go p e below _ (T3.setTop (mkF m 56 #[.val (.int p0), .val (.int p1), .val (.int p2), .val (.int p3), .val (.double xw), .second, .val (.int xi), .val (.double xt), .second, .val (.double xl), .second, .val (.double d1), .second, .val (.double d2), .second, .unset, .unset, .unset, .unset] [(.double xt), (.double xw)]))
  refine own_Go.st (fun _ kt => XS.dload X3.here hx rfl (hb hby at_56) rfl kt) ?_
  show own_Go p e below _ (T3.setTop (mkF m 58 #[.val (.int p0), .val (.int p1), .val (.int p2), .val (.int p3), .val (.double xw), .second, .val (.int xi), .val (.double xt), .second, .val (.double xl), .second, .val (.double d1), .second, .val (.double d2), .second, .unset, .unset, .unset, .unset] [(.double xl), (.double xt), (.double xw)]))
  refine own_Go.st (fun _ kt => XS.dconst1 X3.here hx rfl (hb hby at_58) rfl kt) ?_
  show own_Go p e below _ (T3.setTop (mkF m 59 #[.val (.int p0), .val (.int p1), .val (.int p2), .val (.int p3), .val (.double xw), .second, .val (.int xi), .val (.double xt), .second, .val (.double xl), .second, .val (.double d1), .second, .val (.double d2), .second, .unset, .unset, .unset, .unset] [(.double FP.dconst1), (.double xl), (.double xt), (.double xw)]))
  have dl1 := own_addU dl own_one (by omega)
  refine own_Go.st (fun _ kt => XS.daddS X3.here hx rfl (hb hby at_59) rfl (dl1.n64) rfl kt) ?_
  show own_Go p e below _ (T3.setTop (mkF m 60 #[.val (.int p0), .val (.int p1), .val (.int p2), .val (.int p3), .val (.double xw), .second, .val (.int xi), .val (.double xt), .second, .val (.double xl), .second, .val (.double d1), .second, .val (.double d2), .second, .unset, .unset, .unset, .unset] [(.double (FP.dadd xl FP.dconst1)), (.double xt), (.double xw)]))
  obtain ⟨_, _, ⟨T4, L4, k4, n4⟩, -, X4, ⟨Lc4, hQ4, l4, y4, z4⟩, st4⟩ := Jvm.LawKit.callS X3 hx (y := (⟨"com/example/passagewise/passagewise/search/Bm25Formula", "part", "(DDD)D"⟩ : MethodName)) hown (mvT hZ (hw _ (List.mem_of_getElem? (i := 5) rfl))) (mvT hZ (hw _ (List.mem_of_getElem? (i := 6) rfl))) (mvT hZ (hw _ (List.mem_of_getElem? (i := 7) rfl))) (mvT hZ (hw _ (List.mem_of_getElem? (i := 8) rfl))) (by decide) (backOf (W := 0) (own_partP l Z a0 hw [] xw xt (FP.dadd xl FP.dconst1) nw nt (nl + 1) h0 n0 Z0 dw dt dl1 sw t0 bw (by omega)) hZ (hw _ (List.mem_of_getElem? (i := 8) rfl)) (hw _ (List.mem_of_getElem? (i := 7) rfl)) (by decide) (by decide)) (g := (mkF m 60 #[.val (.int p0), .val (.int p1), .val (.int p2), .val (.int p3), .val (.double xw), .second, .val (.int xi), .val (.double xt), .second, .val (.double xl), .second, .val (.double d1), .second, .val (.double d2), .second, .unset, .unset, .unset, .unset] [(.double (FP.dadd xl FP.dconst1)), (.double xt), (.double xw)])) rfl (by rw [hml]; rfl) (argsL := [(.double xw), (.double xt), (.double (FP.dadd xl FP.dconst1))]) (rest := []) (lenOf own_pd1 rfl) rfl (by show 2 * 0 + _ ≤ _; exact Nat.le_of_eq rfl) (hb hby at_60) (fun _ _ => ⟨rfl, hh3, (by decide : 0 + 0 ≤ _), (by decide : 0 + 0 ≤ _)⟩)
  dsimp only [Pt.U, Pt.locs, Pt.cells, Pt.slots] at X4 l4 y4 z4 st4 hQ4
  subst l4 y4 z4
  obtain ⟨d3, y3, rfl, N4q, r3, q3, hh4⟩ := hQ4
  have N4 := Fr.app N3 N4q
  refine own_Go.st (fun _ kt => st4 _ kt) ?_
  show own_Go p e below _ (T4.setTop (mkF m 63 #[.val (.int p0), .val (.int p1), .val (.int p2), .val (.int p3), .val (.double xw), .second, .val (.int xi), .val (.double xt), .second, .val (.double xl), .second, .val (.double d1), .second, .val (.double d2), .second, .unset, .unset, .unset, .unset] [(.double d3)]))
  refine own_Go.st (fun _ kt => XS.dstore X4.here hx rfl (hb hby at_63) rfl (l' := #[.val (.int p0), .val (.int p1), .val (.int p2), .val (.int p3), .val (.double xw), .second, .val (.int xi), .val (.double xt), .second, .val (.double xl), .second, .val (.double d1), .second, .val (.double d2), .second, .val (.double d3), .second, .unset, .unset]) rfl kt) ?_
  show own_Go p e below _ (T4.setTop (mkF m 65 #[.val (.int p0), .val (.int p1), .val (.int p2), .val (.int p3), .val (.double xw), .second, .val (.int xi), .val (.double xt), .second, .val (.double xl), .second, .val (.double d1), .second, .val (.double d2), .second, .val (.double d3), .second, .unset, .unset] []))
  refine own_Go.st (fun _ kt => XS.dload X4.here hx rfl (hb hby at_65) rfl kt) ?_
  show own_Go p e below _ (T4.setTop (mkF m 67 #[.val (.int p0), .val (.int p1), .val (.int p2), .val (.int p3), .val (.double xw), .second, .val (.int xi), .val (.double xt), .second, .val (.double xl), .second, .val (.double d1), .second, .val (.double d2), .second, .val (.double d3), .second, .unset, .unset] [(.double d1)]))
  refine own_Go.st (fun _ kt => XS.dconst0 X4.here hx rfl (hb hby at_67) rfl kt) ?_
  show own_Go p e below _ (T4.setTop (mkF m 68 #[.val (.int p0), .val (.int p1), .val (.int p2), .val (.int p3), .val (.double xw), .second, .val (.int xi), .val (.double xt), .second, .val (.double xl), .second, .val (.double d1), .second, .val (.double d2), .second, .val (.double d3), .second, .unset, .unset] [(.double FP.dconst0), (.double d1)]))
  refine own_Go.st (fun _ kt => XS.dcmpS X4.here hx rfl (hb hby at_68) rfl rfl kt) ?_
  show own_Go p e below _ (T4.setTop (mkF m 69 #[.val (.int p0), .val (.int p1), .val (.int p2), .val (.int p3), .val (.double xw), .second, .val (.int xi), .val (.double xt), .second, .val (.double xl), .second, .val (.double d1), .second, .val (.double d2), .second, .val (.double d3), .second, .unset, .unset] [(.int (cmpValue (FP.dcmp d1 FP.dconst0) .l))]))
  refine own_Go.st (fun _ kt => XS.ifNo X4.here hx rfl (hb hby at_69) rfl ((if0 _ _).trans (flt (own_cge r1 own_zero (Int.natCast_nonneg _) _)).1) kt) ?_
  show own_Go p e below _ (T4.setTop (mkF m 72 #[.val (.int p0), .val (.int p1), .val (.int p2), .val (.int p3), .val (.double xw), .second, .val (.int xi), .val (.double xt), .second, .val (.double xl), .second, .val (.double d1), .second, .val (.double d2), .second, .val (.double d3), .second, .unset, .unset] []))
  refine own_Go.st (fun _ kt => XS.dload X4.here hx rfl (hb hby at_72) rfl kt) ?_
  show own_Go p e below _ (T4.setTop (mkF m 74 #[.val (.int p0), .val (.int p1), .val (.int p2), .val (.int p3), .val (.double xw), .second, .val (.int xi), .val (.double xt), .second, .val (.double xl), .second, .val (.double d1), .second, .val (.double d2), .second, .val (.double d3), .second, .unset, .unset] [(.double d1)]))
  refine own_Go.st (fun _ kt => XS.dload X4.here hx rfl (hb hby at_74) rfl kt) ?_
  show own_Go p e below _ (T4.setTop (mkF m 76 #[.val (.int p0), .val (.int p1), .val (.int p2), .val (.int p3), .val (.double xw), .second, .val (.int xi), .val (.double xt), .second, .val (.double xl), .second, .val (.double d1), .second, .val (.double d2), .second, .val (.double d3), .second, .unset, .unset] [(.double xw), (.double d1)]))
  refine own_Go.st (fun _ kt => XS.dcmpS X4.here hx rfl (hb hby at_76) rfl rfl kt) ?_
  show own_Go p e below _ (T4.setTop (mkF m 77 #[.val (.int p0), .val (.int p1), .val (.int p2), .val (.int p3), .val (.double xw), .second, .val (.int xi), .val (.double xt), .second, .val (.double xl), .second, .val (.double d1), .second, .val (.double d2), .second, .val (.double d3), .second, .unset, .unset] [(.int (cmpValue (FP.dcmp d1 xw) .g))]))
  refine own_Go.st (fun _ kt => XS.ifNo X4.here hx rfl (hb hby at_77) rfl ((if0 _ _).trans (flt (own_cle r1 dw (Int.ofNat_le.mpr (own_le_w bw (by omega) (by omega))) _)).2.2.1) kt) ?_
  show own_Go p e below _ (T4.setTop (mkF m 80 #[.val (.int p0), .val (.int p1), .val (.int p2), .val (.int p3), .val (.double xw), .second, .val (.int xi), .val (.double xt), .second, .val (.double xl), .second, .val (.double d1), .second, .val (.double d2), .second, .val (.double d3), .second, .unset, .unset] []))
  refine own_Go.st (fun _ kt => XS.dload X4.here hx rfl (hb hby at_80) rfl kt) ?_
  show own_Go p e below _ (T4.setTop (mkF m 82 #[.val (.int p0), .val (.int p1), .val (.int p2), .val (.int p3), .val (.double xw), .second, .val (.int xi), .val (.double xt), .second, .val (.double xl), .second, .val (.double d1), .second, .val (.double d2), .second, .val (.double d3), .second, .unset, .unset] [(.double d1)]))
  refine own_Go.st (fun _ kt => XS.dload X4.here hx rfl (hb hby at_82) rfl kt) ?_
  show own_Go p e below _ (T4.setTop (mkF m 84 #[.val (.int p0), .val (.int p1), .val (.int p2), .val (.int p3), .val (.double xw), .second, .val (.int xi), .val (.double xt), .second, .val (.double xl), .second, .val (.double d1), .second, .val (.double d2), .second, .val (.double d3), .second, .unset, .unset] [(.double d2), (.double d1)]))
  refine own_Go.st (fun _ kt => XS.dcmpS X4.here hx rfl (hb hby at_84) rfl rfl kt) ?_
  show own_Go p e below _ (T4.setTop (mkF m 85 #[.val (.int p0), .val (.int p1), .val (.int p2), .val (.int p3), .val (.double xw), .second, .val (.int xi), .val (.double xt), .second, .val (.double xl), .second, .val (.double d1), .second, .val (.double d2), .second, .val (.double d3), .second, .unset, .unset] [(.int (cmpValue (FP.dcmp d1 d2) .g))]))
  refine own_Go.st (fun _ kt => XS.ifNo X4.here hx rfl (hb hby at_85) rfl ((if0 _ _).trans (flt (own_cle r1 r2 (Int.ofNat_le.mpr (own_more bw t0)) _)).2.2.1) kt) ?_
  show own_Go p e below _ (T4.setTop (mkF m 88 #[.val (.int p0), .val (.int p1), .val (.int p2), .val (.int p3), .val (.double xw), .second, .val (.int xi), .val (.double xt), .second, .val (.double xl), .second, .val (.double d1), .second, .val (.double d2), .second, .val (.double d3), .second, .unset, .unset] []))
  refine own_Go.st (fun _ kt => XS.dload X4.here hx rfl (hb hby at_88) rfl kt) ?_
  show own_Go p e below _ (T4.setTop (mkF m 90 #[.val (.int p0), .val (.int p1), .val (.int p2), .val (.int p3), .val (.double xw), .second, .val (.int xi), .val (.double xt), .second, .val (.double xl), .second, .val (.double d1), .second, .val (.double d2), .second, .val (.double d3), .second, .unset, .unset] [(.double d3)]))
  refine own_Go.st (fun _ kt => XS.dload X4.here hx rfl (hb hby at_90) rfl kt) ?_
  show own_Go p e below _ (T4.setTop (mkF m 92 #[.val (.int p0), .val (.int p1), .val (.int p2), .val (.int p3), .val (.double xw), .second, .val (.int xi), .val (.double xt), .second, .val (.double xl), .second, .val (.double d1), .second, .val (.double d2), .second, .val (.double d3), .second, .unset, .unset] [(.double d1), (.double d3)]))
  refine own_Go.st (fun _ kt => XS.dcmpS X4.here hx rfl (hb hby at_92) rfl rfl kt) ?_
  show own_Go p e below _ (T4.setTop (mkF m 93 #[.val (.int p0), .val (.int p1), .val (.int p2), .val (.int p3), .val (.double xw), .second, .val (.int xi), .val (.double xt), .second, .val (.double xl), .second, .val (.double d1), .second, .val (.double d2), .second, .val (.double d3), .second, .unset, .unset] [(.int (cmpValue (FP.dcmp d3 d1) .g))]))
  refine own_Go.st (fun _ kt => XS.ifNo X4.here hx rfl (hb hby at_93) rfl ((if0 _ _).trans (flt (own_cle r3 r1 (Int.ofNat_le.mpr (own_longer bw t0)) _)).2.2.1) kt) ?_
  show own_Go p e below _ (T4.setTop (mkF m 96 #[.val (.int p0), .val (.int p1), .val (.int p2), .val (.int p3), .val (.double xw), .second, .val (.int xi), .val (.double xt), .second, .val (.double xl), .second, .val (.double d1), .second, .val (.double d2), .second, .val (.double d3), .second, .unset, .unset] []))
  refine own_Go.st (fun _ kt => XS.iconst X4.here hx rfl (hb hby at_96) kt) ?_
  show own_Go p e below _ (T4.setTop (mkF m 97 #[.val (.int p0), .val (.int p1), .val (.int p2), .val (.int p3), .val (.double xw), .second, .val (.int xi), .val (.double xt), .second, .val (.double xl), .second, .val (.double d1), .second, .val (.double d2), .second, .val (.double d3), .second, .unset, .unset] [(.int (1 : Int32))]))
  refine own_Go.st (fun _ kt => XS.goto X4.here hx rfl (pc0 := 97) (pc' := 101) rfl (hb hby at_97) (by decide) (by decide) kt) ?_
  show own_Go p e below _ (T4.setTop (mkF m 101 #[.val (.int p0), .val (.int p1), .val (.int p2), .val (.int p3), .val (.double xw), .second, .val (.int xi), .val (.double xt), .second, .val (.double xl), .second, .val (.double d1), .second, .val (.double d2), .second, .val (.double d3), .second, .unset, .unset] [(.int (1 : Int32))]))
  refine own_Go.st (fun _ kt => XS.istore X4.here hx rfl (hb hby at_101) rfl (l' := #[.val (.int p0), .val (.int p1), .val (.int p2), .val (.int p3), .val (.double xw), .second, .val (.int xi), .val (.double xt), .second, .val (.double xl), .second, .val (.double d1), .second, .val (.double d2), .second, .val (.double d3), .second, .val (.int (1 : Int32)), .unset]) rfl kt) ?_
  show own_Go p e below _ (T4.setTop (mkF m 103 #[.val (.int p0), .val (.int p1), .val (.int p2), .val (.int p3), .val (.double xw), .second, .val (.int xi), .val (.double xt), .second, .val (.double xl), .second, .val (.double d1), .second, .val (.double d2), .second, .val (.double d3), .second, .val (.int (1 : Int32)), .unset] []))
  have J179 : ∀ (T5 : State) (lc5 : List Loc) (X5 : Stand p l e room_1 s m #[(.int p0), (.int p1), (.int p2), (.int p3)] below meth c T5 lc5 0 0) (e5 : T5.heap = h0) (N5 : Fr n0 lc5) , own_Go p e below (fun o U' => ∃ v L, o = .returned v ∧ own_Q_own_law Z p0 p1 p2 p3 h0 n0 v U'.heap L ∧ FrameEnd s o U' L room_1.cells room_1.slots) (T5.setTop (mkF m 179 #[.val (.int p0), .val (.int p1), .val (.int p2), .val (.int p3), .val (.double xw), .second, .val (.int xi), .val (.double xt), .second, .val (.double xl), .second, .val (.double d1), .second, .val (.double d2), .second, .val (.double d3), .second, .val (.int (1 : Int32)), .unset] [])) := by
    intro T5 lc5 X5 e5 N5 
    show own_Go p e below _ (T5.setTop (mkF m 179 #[.val (.int p0), .val (.int p1), .val (.int p2), .val (.int p3), .val (.double xw), .second, .val (.int xi), .val (.double xt), .second, .val (.double xl), .second, .val (.double d1), .second, .val (.double d2), .second, .val (.double d3), .second, .val (.int (1 : Int32)), .unset] []))
    refine own_Go.st (fun _ kt => XS.iloadN X5.here hx rfl (hb hby at_179) rfl kt) ?_
    show own_Go p e below _ (T5.setTop (mkF m 180 #[.val (.int p0), .val (.int p1), .val (.int p2), .val (.int p3), .val (.double xw), .second, .val (.int xi), .val (.double xt), .second, .val (.double xl), .second, .val (.double d1), .second, .val (.double d2), .second, .val (.double d3), .second, .val (.int (1 : Int32)), .unset] [(.int p3)]))
    refine own_Go.st (fun _ kt => XS.iconst X5.here hx rfl (hb hby at_180) kt) ?_
    show own_Go p e below _ (T5.setTop (mkF m 181 #[.val (.int p0), .val (.int p1), .val (.int p2), .val (.int p3), .val (.double xw), .second, .val (.int xi), .val (.double xt), .second, .val (.double xl), .second, .val (.double d1), .second, .val (.double d2), .second, .val (.double d3), .second, .val (.int (1 : Int32)), .unset] [(.int (3 : Int32)), (.int p3)]))
    refine own_Go.st (fun _ kt => XS.iand X5.here hx rfl (hb hby at_181) rfl kt) ?_
    show own_Go p e below _ (T5.setTop (mkF m 182 #[.val (.int p0), .val (.int p1), .val (.int p2), .val (.int p3), .val (.double xw), .second, .val (.int xi), .val (.double xt), .second, .val (.double xl), .second, .val (.double d1), .second, .val (.double d2), .second, .val (.double d3), .second, .val (.int (1 : Int32)), .unset] [(.int (p3 &&& (3 : Int32)))]))
    refine own_Go.st (fun _ kt => XS.istore X5.here hx rfl (hb hby at_182) rfl (l' := #[.val (.int p0), .val (.int p1), .val (.int p2), .val (.int p3), .val (.double xw), .second, .val (.int xi), .val (.double xt), .second, .val (.double xl), .second, .val (.double d1), .second, .val (.double d2), .second, .val (.double d3), .second, .val (.int (1 : Int32)), .val (.int (p3 &&& (3 : Int32)))]) rfl kt) ?_
    show own_Go p e below _ (T5.setTop (mkF m 184 #[.val (.int p0), .val (.int p1), .val (.int p2), .val (.int p3), .val (.double xw), .second, .val (.int xi), .val (.double xt), .second, .val (.double xl), .second, .val (.double d1), .second, .val (.double d2), .second, .val (.double d3), .second, .val (.int (1 : Int32)), .val (.int (p3 &&& (3 : Int32)))] []))
    refine own_Go.st (fun _ kt => XS.iload X5.here hx rfl (hb hby at_184) rfl kt) ?_
    show own_Go p e below _ (T5.setTop (mkF m 186 #[.val (.int p0), .val (.int p1), .val (.int p2), .val (.int p3), .val (.double xw), .second, .val (.int xi), .val (.double xt), .second, .val (.double xl), .second, .val (.double d1), .second, .val (.double d2), .second, .val (.double d3), .second, .val (.int (1 : Int32)), .val (.int (p3 &&& (3 : Int32)))] [(.int (p3 &&& (3 : Int32)))]))
    by_cases hm0 : (p3 &&& (3 : Int32)) = (0 : Int32)
    · refine own_Go.st (fun _ kt => XS.ifNo X5.here hx rfl (hb hby at_186) rfl ((if0 _ _).trans (teq hm0).2) kt) ?_
      show own_Go p e below _ (T5.setTop (mkF m 189 #[.val (.int p0), .val (.int p1), .val (.int p2), .val (.int p3), .val (.double xw), .second, .val (.int xi), .val (.double xt), .second, .val (.double xl), .second, .val (.double d1), .second, .val (.double d2), .second, .val (.double d3), .second, .val (.int (1 : Int32)), .val (.int (p3 &&& (3 : Int32)))] []))
      refine own_Go.st (fun _ kt => XS.iload X5.here hx rfl (hb hby at_189) rfl kt) ?_
      show own_Go p e below _ (T5.setTop (mkF m 191 #[.val (.int p0), .val (.int p1), .val (.int p2), .val (.int p3), .val (.double xw), .second, .val (.int xi), .val (.double xt), .second, .val (.double xl), .second, .val (.double d1), .second, .val (.double d2), .second, .val (.double d3), .second, .val (.int (1 : Int32)), .val (.int (p3 &&& (3 : Int32)))] [(.int (1 : Int32))]))
      refine own_Go.st (fun _ kt => XS.ifNo X5.here hx rfl (hb hby at_191) rfl ((if0 _ _).trans (feq (by decide)).1) kt) ?_
      show own_Go p e below _ (T5.setTop (mkF m 194 #[.val (.int p0), .val (.int p1), .val (.int p2), .val (.int p3), .val (.double xw), .second, .val (.int xi), .val (.double xt), .second, .val (.double xl), .second, .val (.double d1), .second, .val (.double d2), .second, .val (.double d3), .second, .val (.int (1 : Int32)), .val (.int (p3 &&& (3 : Int32)))] []))
      refine own_Go.st (fun _ kt => XS.dload X5.here hx rfl (hb hby at_194) rfl kt) ?_
      show own_Go p e below _ (T5.setTop (mkF m 196 #[.val (.int p0), .val (.int p1), .val (.int p2), .val (.int p3), .val (.double xw), .second, .val (.int xi), .val (.double xt), .second, .val (.double xl), .second, .val (.double d1), .second, .val (.double d2), .second, .val (.double d3), .second, .val (.int (1 : Int32)), .val (.int (p3 &&& (3 : Int32)))] [(.double xw)]))
      refine own_Go.st (fun _ kt => XS.dconst0 X5.here hx rfl (hb hby at_196) rfl kt) ?_
      show own_Go p e below _ (T5.setTop (mkF m 197 #[.val (.int p0), .val (.int p1), .val (.int p2), .val (.int p3), .val (.double xw), .second, .val (.int xi), .val (.double xt), .second, .val (.double xl), .second, .val (.double d1), .second, .val (.double d2), .second, .val (.double d3), .second, .val (.int (1 : Int32)), .val (.int (p3 &&& (3 : Int32)))] [(.double FP.dconst0), (.double xw)]))
      refine own_Go.st (fun _ kt => XS.dload X5.here hx rfl (hb hby at_197) rfl kt) ?_
      show own_Go p e below _ (T5.setTop (mkF m 199 #[.val (.int p0), .val (.int p1), .val (.int p2), .val (.int p3), .val (.double xw), .second, .val (.int xi), .val (.double xt), .second, .val (.double xl), .second, .val (.double d1), .second, .val (.double d2), .second, .val (.double d3), .second, .val (.int (1 : Int32)), .val (.int (p3 &&& (3 : Int32)))] [(.double xl), (.double FP.dconst0), (.double xw)]))
      obtain ⟨_, _, ⟨T6, L6, k6, n6⟩, -, X6, ⟨Lc6, hQ6, l6, y6, z6⟩, st6⟩ := Jvm.LawKit.callS X5 hx (y := (⟨"com/example/passagewise/passagewise/search/Bm25Formula", "part", "(DDD)D"⟩ : MethodName)) hown (mvT hZ (hw _ (List.mem_of_getElem? (i := 5) rfl))) (mvT hZ (hw _ (List.mem_of_getElem? (i := 6) rfl))) (mvT hZ (hw _ (List.mem_of_getElem? (i := 7) rfl))) (mvT hZ (hw _ (List.mem_of_getElem? (i := 8) rfl))) (by decide) (backOf (W := 0) (own_partZ l Z a0 hw [] xw xl h0 n0 Z0 ) hZ (hw _ (List.mem_of_getElem? (i := 8) rfl)) (hw _ (List.mem_of_getElem? (i := 7) rfl)) (by decide) (by decide)) (g := (mkF m 199 #[.val (.int p0), .val (.int p1), .val (.int p2), .val (.int p3), .val (.double xw), .second, .val (.int xi), .val (.double xt), .second, .val (.double xl), .second, .val (.double d1), .second, .val (.double d2), .second, .val (.double d3), .second, .val (.int (1 : Int32)), .val (.int (p3 &&& (3 : Int32)))] [(.double xl), (.double FP.dconst0), (.double xw)])) rfl (by rw [hml]; rfl) (argsL := [(.double xw), (.double FP.dconst0), (.double xl)]) (rest := []) (lenOf own_pd1 rfl) rfl (by show 2 * 0 + _ ≤ _; exact Nat.le_of_eq rfl) (hb hby at_199) (fun _ _ => ⟨rfl, e5, (by decide : 0 + 0 ≤ _), (by decide : 0 + 0 ≤ _)⟩)
      dsimp only [Pt.U, Pt.locs, Pt.cells, Pt.slots] at X6 l6 y6 z6 st6 hQ6
      subst l6 y6 z6
      obtain ⟨rfl, N6q, hh6⟩ := hQ6
      have N6 := Fr.app N5 N6q
      refine own_Go.st (fun _ kt => st6 _ kt) ?_
      show own_Go p e below _ (T6.setTop (mkF m 202 #[.val (.int p0), .val (.int p1), .val (.int p2), .val (.int p3), .val (.double xw), .second, .val (.int xi), .val (.double xt), .second, .val (.double xl), .second, .val (.double d1), .second, .val (.double d2), .second, .val (.double d3), .second, .val (.int (1 : Int32)), .val (.int (p3 &&& (3 : Int32)))] [(.double FP.dconst0)]))
      refine own_Go.st (fun _ kt => XS.dconst0 X6.here hx rfl (hb hby at_202) rfl kt) ?_
      show own_Go p e below _ (T6.setTop (mkF m 203 #[.val (.int p0), .val (.int p1), .val (.int p2), .val (.int p3), .val (.double xw), .second, .val (.int xi), .val (.double xt), .second, .val (.double xl), .second, .val (.double d1), .second, .val (.double d2), .second, .val (.double d3), .second, .val (.int (1 : Int32)), .val (.int (p3 &&& (3 : Int32)))] [(.double FP.dconst0), (.double FP.dconst0)]))
      refine own_Go.st (fun _ kt => XS.dcmpS X6.here hx rfl (hb hby at_203) rfl (own_deq own_zero own_zero _) kt) ?_
      show own_Go p e below _ (T6.setTop (mkF m 204 #[.val (.int p0), .val (.int p1), .val (.int p2), .val (.int p3), .val (.double xw), .second, .val (.int xi), .val (.double xt), .second, .val (.double xl), .second, .val (.double d1), .second, .val (.double d2), .second, .val (.double d3), .second, .val (.int (1 : Int32)), .val (.int (p3 &&& (3 : Int32)))] [(.int (0 : Int32))]))
      refine own_Go.st (fun _ kt => XS.ifNo X6.here hx rfl (hb hby at_204) rfl ((if0 _ _).trans (teq rfl).2) kt) ?_
      show own_Go p e below _ (T6.setTop (mkF m 207 #[.val (.int p0), .val (.int p1), .val (.int p2), .val (.int p3), .val (.double xw), .second, .val (.int xi), .val (.double xt), .second, .val (.double xl), .second, .val (.double d1), .second, .val (.double d2), .second, .val (.double d3), .second, .val (.int (1 : Int32)), .val (.int (p3 &&& (3 : Int32)))] []))
      refine own_Go.st (fun _ kt => XS.iconst X6.here hx rfl (hb hby at_207) kt) ?_
      show own_Go p e below _ (T6.setTop (mkF m 208 #[.val (.int p0), .val (.int p1), .val (.int p2), .val (.int p3), .val (.double xw), .second, .val (.int xi), .val (.double xt), .second, .val (.double xl), .second, .val (.double d1), .second, .val (.double d2), .second, .val (.double d3), .second, .val (.int (1 : Int32)), .val (.int (p3 &&& (3 : Int32)))] [(.int (1 : Int32))]))
      refine own_Go.st (fun _ kt => XS.goto X6.here hx rfl (pc0 := 208) (pc' := 212) rfl (hb hby at_208) (by decide) (by decide) kt) ?_
      show own_Go p e below _ (T6.setTop (mkF m 212 #[.val (.int p0), .val (.int p1), .val (.int p2), .val (.int p3), .val (.double xw), .second, .val (.int xi), .val (.double xt), .second, .val (.double xl), .second, .val (.double d1), .second, .val (.double d2), .second, .val (.double d3), .second, .val (.int (1 : Int32)), .val (.int (p3 &&& (3 : Int32)))] [(.int (1 : Int32))]))
      refine own_Go.st (fun _ kt => XS.istore X6.here hx rfl (hb hby at_212) rfl (l' := #[.val (.int p0), .val (.int p1), .val (.int p2), .val (.int p3), .val (.double xw), .second, .val (.int xi), .val (.double xt), .second, .val (.double xl), .second, .val (.double d1), .second, .val (.double d2), .second, .val (.double d3), .second, .val (.int (1 : Int32)), .val (.int (p3 &&& (3 : Int32)))]) rfl kt) ?_
      show own_Go p e below _ (T6.setTop (mkF m 214 #[.val (.int p0), .val (.int p1), .val (.int p2), .val (.int p3), .val (.double xw), .second, .val (.int xi), .val (.double xt), .second, .val (.double xl), .second, .val (.double d1), .second, .val (.double d2), .second, .val (.double d3), .second, .val (.int (1 : Int32)), .val (.int (p3 &&& (3 : Int32)))] []))
      refine own_Go.st (fun _ kt => XS.goto X6.here hx rfl (pc0 := 214) (pc' := 339) rfl (hb hby at_214) (by decide) (by decide) kt) ?_
      show own_Go p e below _ (T6.setTop (mkF m 339 #[.val (.int p0), .val (.int p1), .val (.int p2), .val (.int p3), .val (.double xw), .second, .val (.int xi), .val (.double xt), .second, .val (.double xl), .second, .val (.double d1), .second, .val (.double d2), .second, .val (.double d3), .second, .val (.int (1 : Int32)), .val (.int (p3 &&& (3 : Int32)))] []))
      refine own_Go.st (fun _ kt => XS.iload X6.here hx rfl (hb hby at_339) rfl kt) ?_
      show own_Go p e below _ (T6.setTop (mkF m 341 #[.val (.int p0), .val (.int p1), .val (.int p2), .val (.int p3), .val (.double xw), .second, .val (.int xi), .val (.double xt), .second, .val (.double xl), .second, .val (.double d1), .second, .val (.double d2), .second, .val (.double d3), .second, .val (.int (1 : Int32)), .val (.int (p3 &&& (3 : Int32)))] [(.int (1 : Int32))]))
      exact own_retZ X6 hx Bd.notSynchronized Bd.returns (Or.inr rfl) (hb hby at_341) (by decide) (by decide) ⟨rfl, N6⟩
    · refine own_Go.st (fun _ kt => XS.ifYes X5.here hx rfl (pc0 := 186) (pc' := 217) rfl (hb hby at_186) rfl ((if0 _ _).trans (feq hm0).2) (by decide) (by decide) kt) ?_
      show own_Go p e below _ (T5.setTop (mkF m 217 #[.val (.int p0), .val (.int p1), .val (.int p2), .val (.int p3), .val (.double xw), .second, .val (.int xi), .val (.double xt), .second, .val (.double xl), .second, .val (.double d1), .second, .val (.double d2), .second, .val (.double d3), .second, .val (.int (1 : Int32)), .val (.int (p3 &&& (3 : Int32)))] []))
      refine own_Go.st (fun _ kt => XS.iload X5.here hx rfl (hb hby at_217) rfl kt) ?_
      show own_Go p e below _ (T5.setTop (mkF m 219 #[.val (.int p0), .val (.int p1), .val (.int p2), .val (.int p3), .val (.double xw), .second, .val (.int xi), .val (.double xt), .second, .val (.double xl), .second, .val (.double d1), .second, .val (.double d2), .second, .val (.double d3), .second, .val (.int (1 : Int32)), .val (.int (p3 &&& (3 : Int32)))] [(.int (p3 &&& (3 : Int32)))]))
      refine own_Go.st (fun _ kt => XS.iconst X5.here hx rfl (hb hby at_219) kt) ?_
      show own_Go p e below _ (T5.setTop (mkF m 220 #[.val (.int p0), .val (.int p1), .val (.int p2), .val (.int p3), .val (.double xw), .second, .val (.int xi), .val (.double xt), .second, .val (.double xl), .second, .val (.double d1), .second, .val (.double d2), .second, .val (.double d3), .second, .val (.int (1 : Int32)), .val (.int (p3 &&& (3 : Int32)))] [(.int (1 : Int32)), (.int (p3 &&& (3 : Int32)))]))
      by_cases hm1 : (p3 &&& (3 : Int32)) = (1 : Int32)
      · refine own_Go.st (fun _ kt => XS.icmpNo X5.here hx rfl (hb hby at_220) rfl (teq hm1).2 kt) ?_
        show own_Go p e below _ (T5.setTop (mkF m 223 #[.val (.int p0), .val (.int p1), .val (.int p2), .val (.int p3), .val (.double xw), .second, .val (.int xi), .val (.double xt), .second, .val (.double xl), .second, .val (.double d1), .second, .val (.double d2), .second, .val (.double d3), .second, .val (.int (1 : Int32)), .val (.int (p3 &&& (3 : Int32)))] []))
        refine own_Go.st (fun _ kt => XS.iload X5.here hx rfl (hb hby at_223) rfl kt) ?_
        show own_Go p e below _ (T5.setTop (mkF m 225 #[.val (.int p0), .val (.int p1), .val (.int p2), .val (.int p3), .val (.double xw), .second, .val (.int xi), .val (.double xt), .second, .val (.double xl), .second, .val (.double d1), .second, .val (.double d2), .second, .val (.double d3), .second, .val (.int (1 : Int32)), .val (.int (p3 &&& (3 : Int32)))] [(.int (1 : Int32))]))
        refine own_Go.st (fun _ kt => XS.ifNo X5.here hx rfl (hb hby at_225) rfl ((if0 _ _).trans (feq (by decide)).1) kt) ?_
        show own_Go p e below _ (T5.setTop (mkF m 228 #[.val (.int p0), .val (.int p1), .val (.int p2), .val (.int p3), .val (.double xw), .second, .val (.int xi), .val (.double xt), .second, .val (.double xl), .second, .val (.double d1), .second, .val (.double d2), .second, .val (.double d3), .second, .val (.int (1 : Int32)), .val (.int (p3 &&& (3 : Int32)))] []))
        refine own_Go.st (fun _ kt => XS.dload X5.here hx rfl (hb hby at_228) rfl kt) ?_
        show own_Go p e below _ (T5.setTop (mkF m 230 #[.val (.int p0), .val (.int p1), .val (.int p2), .val (.int p3), .val (.double xw), .second, .val (.int xi), .val (.double xt), .second, .val (.double xl), .second, .val (.double d1), .second, .val (.double d2), .second, .val (.double d3), .second, .val (.int (1 : Int32)), .val (.int (p3 &&& (3 : Int32)))] [(.double xw)]))
        refine own_Go.st (fun _ kt => XS.dload X5.here hx rfl (hb hby at_230) rfl kt) ?_
        show own_Go p e below _ (T5.setTop (mkF m 232 #[.val (.int p0), .val (.int p1), .val (.int p2), .val (.int p3), .val (.double xw), .second, .val (.int xi), .val (.double xt), .second, .val (.double xl), .second, .val (.double d1), .second, .val (.double d2), .second, .val (.double d3), .second, .val (.int (1 : Int32)), .val (.int (p3 &&& (3 : Int32)))] [(.double xt), (.double xw)]))
        refine own_Go.st (fun _ kt => XS.dload X5.here hx rfl (hb hby at_232) rfl kt) ?_
        show own_Go p e below _ (T5.setTop (mkF m 234 #[.val (.int p0), .val (.int p1), .val (.int p2), .val (.int p3), .val (.double xw), .second, .val (.int xi), .val (.double xt), .second, .val (.double xl), .second, .val (.double d1), .second, .val (.double d2), .second, .val (.double d3), .second, .val (.int (1 : Int32)), .val (.int (p3 &&& (3 : Int32)))] [(.double xt), (.double xt), (.double xw)]))
        obtain ⟨_, _, ⟨T7, L7, k7, n7⟩, -, X7, ⟨Lc7, hQ7, l7, y7, z7⟩, st7⟩ := Jvm.LawKit.callS X5 hx (y := (⟨"com/example/passagewise/passagewise/search/Bm25Formula", "part", "(DDD)D"⟩ : MethodName)) hown (mvT hZ (hw _ (List.mem_of_getElem? (i := 5) rfl))) (mvT hZ (hw _ (List.mem_of_getElem? (i := 6) rfl))) (mvT hZ (hw _ (List.mem_of_getElem? (i := 7) rfl))) (mvT hZ (hw _ (List.mem_of_getElem? (i := 8) rfl))) (by decide) (backOf (W := 0) (own_partP l Z a0 hw [] xw xt xt nw nt nt h0 n0 Z0 dw dt dt sw t0 bw (by omega)) hZ (hw _ (List.mem_of_getElem? (i := 8) rfl)) (hw _ (List.mem_of_getElem? (i := 7) rfl)) (by decide) (by decide)) (g := (mkF m 234 #[.val (.int p0), .val (.int p1), .val (.int p2), .val (.int p3), .val (.double xw), .second, .val (.int xi), .val (.double xt), .second, .val (.double xl), .second, .val (.double d1), .second, .val (.double d2), .second, .val (.double d3), .second, .val (.int (1 : Int32)), .val (.int (p3 &&& (3 : Int32)))] [(.double xt), (.double xt), (.double xw)])) rfl (by rw [hml]; rfl) (argsL := [(.double xw), (.double xt), (.double xt)]) (rest := []) (lenOf own_pd1 rfl) rfl (by show 2 * 0 + _ ≤ _; exact Nat.le_of_eq rfl) (hb hby at_234) (fun _ _ => ⟨rfl, e5, (by decide : 0 + 0 ≤ _), (by decide : 0 + 0 ≤ _)⟩)
        dsimp only [Pt.U, Pt.locs, Pt.cells, Pt.slots] at X7 l7 y7 z7 st7 hQ7
        subst l7 y7 z7
        obtain ⟨d4, y4, rfl, N7q, r4, q4, hh7⟩ := hQ7
        have N7 := Fr.app N5 N7q
        refine own_Go.st (fun _ kt => st7 _ kt) ?_
        show own_Go p e below _ (T7.setTop (mkF m 237 #[.val (.int p0), .val (.int p1), .val (.int p2), .val (.int p3), .val (.double xw), .second, .val (.int xi), .val (.double xt), .second, .val (.double xl), .second, .val (.double d1), .second, .val (.double d2), .second, .val (.double d3), .second, .val (.int (1 : Int32)), .val (.int (p3 &&& (3 : Int32)))] [(.double d4)]))
        rw [own_eqH bw t0] at r4
        refine own_Go.st (fun _ kt => XS.dload X7.here hx rfl (hb hby at_237) rfl kt) ?_
        show own_Go p e below _ (T7.setTop (mkF m 239 #[.val (.int p0), .val (.int p1), .val (.int p2), .val (.int p3), .val (.double xw), .second, .val (.int xi), .val (.double xt), .second, .val (.double xl), .second, .val (.double d1), .second, .val (.double d2), .second, .val (.double d3), .second, .val (.int (1 : Int32)), .val (.int (p3 &&& (3 : Int32)))] [(.double xw), (.double d4)]))
        refine own_Go.st (fun _ kt => X7.ldc2DoubleC hx hown (mvT hZ (hw _ (List.mem_of_getElem? (i := 9) rfl))) (g := (mkF m 239 #[.val (.int p0), .val (.int p1), .val (.int p2), .val (.int p3), .val (.double xw), .second, .val (.int xi), .val (.double xt), .second, .val (.double xl), .second, .val (.double d1), .second, .val (.double d2), .second, .val (.double d3), .second, .val (.int (1 : Int32)), .val (.int (p3 &&& (3 : Int32)))] [(.double xw), (.double d4)])) rfl (hb hby at_239) _ kt) ?_
        show own_Go p e below _ (T7.setTop (mkF m 242 #[.val (.int p0), .val (.int p1), .val (.int p2), .val (.int p3), .val (.double xw), .second, .val (.int xi), .val (.double xt), .second, .val (.double xl), .second, .val (.double d1), .second, .val (.double d2), .second, .val (.double d3), .second, .val (.int (1 : Int32)), .val (.int (p3 &&& (3 : Int32)))] [(.double (4602678819172646912 : UInt64)), (.double xw), (.double d4)]))
        have dh := own_mulk dw own_half bw (by decide)
        refine own_Go.st (fun _ kt => XS.dmulS X7.here hx rfl (hb hby at_242) rfl (dh.n64) rfl kt) ?_
        show own_Go p e below _ (T7.setTop (mkF m 243 #[.val (.int p0), .val (.int p1), .val (.int p2), .val (.int p3), .val (.double xw), .second, .val (.int xi), .val (.double xt), .second, .val (.double xl), .second, .val (.double d1), .second, .val (.double d2), .second, .val (.double d3), .second, .val (.int (1 : Int32)), .val (.int (p3 &&& (3 : Int32)))] [(.double (FP.dmul xw (4602678819172646912 : UInt64))), (.double d4)]))
        refine own_Go.st (fun _ kt => XS.dcmpS X7.here hx rfl (hb hby at_243) rfl (own_deq r4 dh _) kt) ?_
        show own_Go p e below _ (T7.setTop (mkF m 244 #[.val (.int p0), .val (.int p1), .val (.int p2), .val (.int p3), .val (.double xw), .second, .val (.int xi), .val (.double xt), .second, .val (.double xl), .second, .val (.double d1), .second, .val (.double d2), .second, .val (.double d3), .second, .val (.int (1 : Int32)), .val (.int (p3 &&& (3 : Int32)))] [(.int (0 : Int32))]))
        refine own_Go.st (fun _ kt => XS.ifNo X7.here hx rfl (hb hby at_244) rfl ((if0 _ _).trans (teq rfl).2) kt) ?_
        show own_Go p e below _ (T7.setTop (mkF m 247 #[.val (.int p0), .val (.int p1), .val (.int p2), .val (.int p3), .val (.double xw), .second, .val (.int xi), .val (.double xt), .second, .val (.double xl), .second, .val (.double d1), .second, .val (.double d2), .second, .val (.double d3), .second, .val (.int (1 : Int32)), .val (.int (p3 &&& (3 : Int32)))] []))
        refine own_Go.st (fun _ kt => XS.iconst X7.here hx rfl (hb hby at_247) kt) ?_
        show own_Go p e below _ (T7.setTop (mkF m 248 #[.val (.int p0), .val (.int p1), .val (.int p2), .val (.int p3), .val (.double xw), .second, .val (.int xi), .val (.double xt), .second, .val (.double xl), .second, .val (.double d1), .second, .val (.double d2), .second, .val (.double d3), .second, .val (.int (1 : Int32)), .val (.int (p3 &&& (3 : Int32)))] [(.int (1 : Int32))]))
        refine own_Go.st (fun _ kt => XS.goto X7.here hx rfl (pc0 := 248) (pc' := 252) rfl (hb hby at_248) (by decide) (by decide) kt) ?_
        show own_Go p e below _ (T7.setTop (mkF m 252 #[.val (.int p0), .val (.int p1), .val (.int p2), .val (.int p3), .val (.double xw), .second, .val (.int xi), .val (.double xt), .second, .val (.double xl), .second, .val (.double d1), .second, .val (.double d2), .second, .val (.double d3), .second, .val (.int (1 : Int32)), .val (.int (p3 &&& (3 : Int32)))] [(.int (1 : Int32))]))
        refine own_Go.st (fun _ kt => XS.istore X7.here hx rfl (hb hby at_252) rfl (l' := #[.val (.int p0), .val (.int p1), .val (.int p2), .val (.int p3), .val (.double xw), .second, .val (.int xi), .val (.double xt), .second, .val (.double xl), .second, .val (.double d1), .second, .val (.double d2), .second, .val (.double d3), .second, .val (.int (1 : Int32)), .val (.int (p3 &&& (3 : Int32)))]) rfl kt) ?_
        show own_Go p e below _ (T7.setTop (mkF m 254 #[.val (.int p0), .val (.int p1), .val (.int p2), .val (.int p3), .val (.double xw), .second, .val (.int xi), .val (.double xt), .second, .val (.double xl), .second, .val (.double d1), .second, .val (.double d2), .second, .val (.double d3), .second, .val (.int (1 : Int32)), .val (.int (p3 &&& (3 : Int32)))] []))
        refine own_Go.st (fun _ kt => XS.goto X7.here hx rfl (pc0 := 254) (pc' := 339) rfl (hb hby at_254) (by decide) (by decide) kt) ?_
        show own_Go p e below _ (T7.setTop (mkF m 339 #[.val (.int p0), .val (.int p1), .val (.int p2), .val (.int p3), .val (.double xw), .second, .val (.int xi), .val (.double xt), .second, .val (.double xl), .second, .val (.double d1), .second, .val (.double d2), .second, .val (.double d3), .second, .val (.int (1 : Int32)), .val (.int (p3 &&& (3 : Int32)))] []))
        refine own_Go.st (fun _ kt => XS.iload X7.here hx rfl (hb hby at_339) rfl kt) ?_
        show own_Go p e below _ (T7.setTop (mkF m 341 #[.val (.int p0), .val (.int p1), .val (.int p2), .val (.int p3), .val (.double xw), .second, .val (.int xi), .val (.double xt), .second, .val (.double xl), .second, .val (.double d1), .second, .val (.double d2), .second, .val (.double d3), .second, .val (.int (1 : Int32)), .val (.int (p3 &&& (3 : Int32)))] [(.int (1 : Int32))]))
        exact own_retZ X7 hx Bd.notSynchronized Bd.returns (Or.inr rfl) (hb hby at_341) (by decide) (by decide) ⟨rfl, N7⟩
      · refine own_Go.st (fun _ kt => XS.icmpYes X5.here hx rfl (pc0 := 220) (pc' := 257) rfl (hb hby at_220) rfl (feq hm1).2 (by decide) (by decide) kt) ?_
        show own_Go p e below _ (T5.setTop (mkF m 257 #[.val (.int p0), .val (.int p1), .val (.int p2), .val (.int p3), .val (.double xw), .second, .val (.int xi), .val (.double xt), .second, .val (.double xl), .second, .val (.double d1), .second, .val (.double d2), .second, .val (.double d3), .second, .val (.int (1 : Int32)), .val (.int (p3 &&& (3 : Int32)))] []))
        refine own_Go.st (fun _ kt => XS.iload X5.here hx rfl (hb hby at_257) rfl kt) ?_
        show own_Go p e below _ (T5.setTop (mkF m 259 #[.val (.int p0), .val (.int p1), .val (.int p2), .val (.int p3), .val (.double xw), .second, .val (.int xi), .val (.double xt), .second, .val (.double xl), .second, .val (.double d1), .second, .val (.double d2), .second, .val (.double d3), .second, .val (.int (1 : Int32)), .val (.int (p3 &&& (3 : Int32)))] [(.int (p3 &&& (3 : Int32)))]))
        refine own_Go.st (fun _ kt => XS.iconst X5.here hx rfl (hb hby at_259) kt) ?_
        show own_Go p e below _ (T5.setTop (mkF m 260 #[.val (.int p0), .val (.int p1), .val (.int p2), .val (.int p3), .val (.double xw), .second, .val (.int xi), .val (.double xt), .second, .val (.double xl), .second, .val (.double d1), .second, .val (.double d2), .second, .val (.double d3), .second, .val (.int (1 : Int32)), .val (.int (p3 &&& (3 : Int32)))] [(.int (2 : Int32)), (.int (p3 &&& (3 : Int32)))]))
        by_cases hm2 : (p3 &&& (3 : Int32)) = (2 : Int32)
        · refine own_Go.st (fun _ kt => XS.icmpNo X5.here hx rfl (hb hby at_260) rfl (teq hm2).2 kt) ?_
          show own_Go p e below _ (T5.setTop (mkF m 263 #[.val (.int p0), .val (.int p1), .val (.int p2), .val (.int p3), .val (.double xw), .second, .val (.int xi), .val (.double xt), .second, .val (.double xl), .second, .val (.double d1), .second, .val (.double d2), .second, .val (.double d3), .second, .val (.int (1 : Int32)), .val (.int (p3 &&& (3 : Int32)))] []))
          refine own_Go.st (fun _ kt => XS.iload X5.here hx rfl (hb hby at_263) rfl kt) ?_
          show own_Go p e below _ (T5.setTop (mkF m 265 #[.val (.int p0), .val (.int p1), .val (.int p2), .val (.int p3), .val (.double xw), .second, .val (.int xi), .val (.double xt), .second, .val (.double xl), .second, .val (.double d1), .second, .val (.double d2), .second, .val (.double d3), .second, .val (.int (1 : Int32)), .val (.int (p3 &&& (3 : Int32)))] [(.int (1 : Int32))]))
          refine own_Go.st (fun _ kt => XS.ifNo X5.here hx rfl (hb hby at_265) rfl ((if0 _ _).trans (feq (by decide)).1) kt) ?_
          show own_Go p e below _ (T5.setTop (mkF m 268 #[.val (.int p0), .val (.int p1), .val (.int p2), .val (.int p3), .val (.double xw), .second, .val (.int xi), .val (.double xt), .second, .val (.double xl), .second, .val (.double d1), .second, .val (.double d2), .second, .val (.double d3), .second, .val (.int (1 : Int32)), .val (.int (p3 &&& (3 : Int32)))] []))
          refine own_Go.st (fun _ kt => XS.dload X5.here hx rfl (hb hby at_268) rfl kt) ?_
          show own_Go p e below _ (T5.setTop (mkF m 270 #[.val (.int p0), .val (.int p1), .val (.int p2), .val (.int p3), .val (.double xw), .second, .val (.int xi), .val (.double xt), .second, .val (.double xl), .second, .val (.double d1), .second, .val (.double d2), .second, .val (.double d3), .second, .val (.int (1 : Int32)), .val (.int (p3 &&& (3 : Int32)))] [(.double xw)]))
          refine own_Go.st (fun _ kt => XS.dload X5.here hx rfl (hb hby at_270) rfl kt) ?_
          show own_Go p e below _ (T5.setTop (mkF m 272 #[.val (.int p0), .val (.int p1), .val (.int p2), .val (.int p3), .val (.double xw), .second, .val (.int xi), .val (.double xt), .second, .val (.double xl), .second, .val (.double d1), .second, .val (.double d2), .second, .val (.double d3), .second, .val (.int (1 : Int32)), .val (.int (p3 &&& (3 : Int32)))] [(.double xt), (.double xw)]))
          refine own_Go.st (fun _ kt => X5.ldc2DoubleC hx hown (mvT hZ (hw _ (List.mem_of_getElem? (i := 10) rfl))) (g := (mkF m 272 #[.val (.int p0), .val (.int p1), .val (.int p2), .val (.int p3), .val (.double xw), .second, .val (.int xi), .val (.double xt), .second, .val (.double xl), .second, .val (.double d1), .second, .val (.double d2), .second, .val (.double d3), .second, .val (.int (1 : Int32)), .val (.int (p3 &&& (3 : Int32)))] [(.double xt), (.double xw)])) rfl (hb hby at_272) _ kt) ?_
          show own_Go p e below _ (T5.setTop (mkF m 275 #[.val (.int p0), .val (.int p1), .val (.int p2), .val (.int p3), .val (.double xw), .second, .val (.int xi), .val (.double xt), .second, .val (.double xl), .second, .val (.double d1), .second, .val (.double d2), .second, .val (.double d3), .second, .val (.int (1 : Int32)), .val (.int (p3 &&& (3 : Int32)))] [(.double (4613937818241073152 : UInt64)), (.double xt), (.double xw)]))
          refine own_Go.st (fun _ kt => XS.dload X5.here hx rfl (hb hby at_275) rfl kt) ?_
          show own_Go p e below _ (T5.setTop (mkF m 277 #[.val (.int p0), .val (.int p1), .val (.int p2), .val (.int p3), .val (.double xw), .second, .val (.int xi), .val (.double xt), .second, .val (.double xl), .second, .val (.double d1), .second, .val (.double d2), .second, .val (.double d3), .second, .val (.int (1 : Int32)), .val (.int (p3 &&& (3 : Int32)))] [(.double xt), (.double (4613937818241073152 : UInt64)), (.double xt), (.double xw)]))
          have d3t := own_mulU own_three dt (by omega)
          refine own_Go.st (fun _ kt => XS.dmulS X5.here hx rfl (hb hby at_277) rfl (d3t.n64) rfl kt) ?_
          show own_Go p e below _ (T5.setTop (mkF m 278 #[.val (.int p0), .val (.int p1), .val (.int p2), .val (.int p3), .val (.double xw), .second, .val (.int xi), .val (.double xt), .second, .val (.double xl), .second, .val (.double d1), .second, .val (.double d2), .second, .val (.double d3), .second, .val (.int (1 : Int32)), .val (.int (p3 &&& (3 : Int32)))] [(.double (FP.dmul (4613937818241073152 : UInt64) xt)), (.double xt), (.double xw)]))
          obtain ⟨_, _, ⟨T8, L8, k8, n8⟩, -, X8, ⟨Lc8, hQ8, l8, y8, z8⟩, st8⟩ := Jvm.LawKit.callS X5 hx (y := (⟨"com/example/passagewise/passagewise/search/Bm25Formula", "part", "(DDD)D"⟩ : MethodName)) hown (mvT hZ (hw _ (List.mem_of_getElem? (i := 5) rfl))) (mvT hZ (hw _ (List.mem_of_getElem? (i := 6) rfl))) (mvT hZ (hw _ (List.mem_of_getElem? (i := 7) rfl))) (mvT hZ (hw _ (List.mem_of_getElem? (i := 8) rfl))) (by decide) (backOf (W := 0) (own_partP l Z a0 hw [] xw xt (FP.dmul (4613937818241073152 : UInt64) xt) nw nt (3 * nt) h0 n0 Z0 dw dt d3t sw t0 bw (by omega)) hZ (hw _ (List.mem_of_getElem? (i := 8) rfl)) (hw _ (List.mem_of_getElem? (i := 7) rfl)) (by decide) (by decide)) (g := (mkF m 278 #[.val (.int p0), .val (.int p1), .val (.int p2), .val (.int p3), .val (.double xw), .second, .val (.int xi), .val (.double xt), .second, .val (.double xl), .second, .val (.double d1), .second, .val (.double d2), .second, .val (.double d3), .second, .val (.int (1 : Int32)), .val (.int (p3 &&& (3 : Int32)))] [(.double (FP.dmul (4613937818241073152 : UInt64) xt)), (.double xt), (.double xw)])) rfl (by rw [hml]; rfl) (argsL := [(.double xw), (.double xt), (.double (FP.dmul (4613937818241073152 : UInt64) xt))]) (rest := []) (lenOf own_pd1 rfl) rfl (by show 2 * 0 + _ ≤ _; exact Nat.le_of_eq rfl) (hb hby at_278) (fun _ _ => ⟨rfl, e5, (by decide : 0 + 0 ≤ _), (by decide : 0 + 0 ≤ _)⟩)
          dsimp only [Pt.U, Pt.locs, Pt.cells, Pt.slots] at X8 l8 y8 z8 st8 hQ8
          subst l8 y8 z8
          obtain ⟨d4, y4, rfl, N8q, r4, q4, hh8⟩ := hQ8
          have N8 := Fr.app N5 N8q
          refine own_Go.st (fun _ kt => st8 _ kt) ?_
          show own_Go p e below _ (T8.setTop (mkF m 281 #[.val (.int p0), .val (.int p1), .val (.int p2), .val (.int p3), .val (.double xw), .second, .val (.int xi), .val (.double xt), .second, .val (.double xl), .second, .val (.double d1), .second, .val (.double d2), .second, .val (.double d3), .second, .val (.int (1 : Int32)), .val (.int (p3 &&& (3 : Int32)))] [(.double d4)]))
          rw [own_eqQ bw t0] at r4
          refine own_Go.st (fun _ kt => XS.dload X8.here hx rfl (hb hby at_281) rfl kt) ?_
          show own_Go p e below _ (T8.setTop (mkF m 283 #[.val (.int p0), .val (.int p1), .val (.int p2), .val (.int p3), .val (.double xw), .second, .val (.int xi), .val (.double xt), .second, .val (.double xl), .second, .val (.double d1), .second, .val (.double d2), .second, .val (.double d3), .second, .val (.int (1 : Int32)), .val (.int (p3 &&& (3 : Int32)))] [(.double xw), (.double d4)]))
          refine own_Go.st (fun _ kt => X8.ldc2DoubleC hx hown (mvT hZ (hw _ (List.mem_of_getElem? (i := 11) rfl))) (g := (mkF m 283 #[.val (.int p0), .val (.int p1), .val (.int p2), .val (.int p3), .val (.double xw), .second, .val (.int xi), .val (.double xt), .second, .val (.double xl), .second, .val (.double d1), .second, .val (.double d2), .second, .val (.double d3), .second, .val (.int (1 : Int32)), .val (.int (p3 &&& (3 : Int32)))] [(.double xw), (.double d4)])) rfl (hb hby at_283) _ kt) ?_
          show own_Go p e below _ (T8.setTop (mkF m 286 #[.val (.int p0), .val (.int p1), .val (.int p2), .val (.int p3), .val (.double xw), .second, .val (.int xi), .val (.double xt), .second, .val (.double xl), .second, .val (.double d1), .second, .val (.double d2), .second, .val (.double d3), .second, .val (.int (1 : Int32)), .val (.int (p3 &&& (3 : Int32)))] [(.double (4598175219545276416 : UInt64)), (.double xw), (.double d4)]))
          have dh := own_mulk dw own_quarter bw (by decide)
          refine own_Go.st (fun _ kt => XS.dmulS X8.here hx rfl (hb hby at_286) rfl (dh.n64) rfl kt) ?_
          show own_Go p e below _ (T8.setTop (mkF m 287 #[.val (.int p0), .val (.int p1), .val (.int p2), .val (.int p3), .val (.double xw), .second, .val (.int xi), .val (.double xt), .second, .val (.double xl), .second, .val (.double d1), .second, .val (.double d2), .second, .val (.double d3), .second, .val (.int (1 : Int32)), .val (.int (p3 &&& (3 : Int32)))] [(.double (FP.dmul xw (4598175219545276416 : UInt64))), (.double d4)]))
          refine own_Go.st (fun _ kt => XS.dcmpS X8.here hx rfl (hb hby at_287) rfl (own_deq r4 dh _) kt) ?_
          show own_Go p e below _ (T8.setTop (mkF m 288 #[.val (.int p0), .val (.int p1), .val (.int p2), .val (.int p3), .val (.double xw), .second, .val (.int xi), .val (.double xt), .second, .val (.double xl), .second, .val (.double d1), .second, .val (.double d2), .second, .val (.double d3), .second, .val (.int (1 : Int32)), .val (.int (p3 &&& (3 : Int32)))] [(.int (0 : Int32))]))
          refine own_Go.st (fun _ kt => XS.ifNo X8.here hx rfl (hb hby at_288) rfl ((if0 _ _).trans (teq rfl).2) kt) ?_
          show own_Go p e below _ (T8.setTop (mkF m 291 #[.val (.int p0), .val (.int p1), .val (.int p2), .val (.int p3), .val (.double xw), .second, .val (.int xi), .val (.double xt), .second, .val (.double xl), .second, .val (.double d1), .second, .val (.double d2), .second, .val (.double d3), .second, .val (.int (1 : Int32)), .val (.int (p3 &&& (3 : Int32)))] []))
          refine own_Go.st (fun _ kt => XS.iconst X8.here hx rfl (hb hby at_291) kt) ?_
          show own_Go p e below _ (T8.setTop (mkF m 292 #[.val (.int p0), .val (.int p1), .val (.int p2), .val (.int p3), .val (.double xw), .second, .val (.int xi), .val (.double xt), .second, .val (.double xl), .second, .val (.double d1), .second, .val (.double d2), .second, .val (.double d3), .second, .val (.int (1 : Int32)), .val (.int (p3 &&& (3 : Int32)))] [(.int (1 : Int32))]))
          refine own_Go.st (fun _ kt => XS.goto X8.here hx rfl (pc0 := 292) (pc' := 296) rfl (hb hby at_292) (by decide) (by decide) kt) ?_
          show own_Go p e below _ (T8.setTop (mkF m 296 #[.val (.int p0), .val (.int p1), .val (.int p2), .val (.int p3), .val (.double xw), .second, .val (.int xi), .val (.double xt), .second, .val (.double xl), .second, .val (.double d1), .second, .val (.double d2), .second, .val (.double d3), .second, .val (.int (1 : Int32)), .val (.int (p3 &&& (3 : Int32)))] [(.int (1 : Int32))]))
          refine own_Go.st (fun _ kt => XS.istore X8.here hx rfl (hb hby at_296) rfl (l' := #[.val (.int p0), .val (.int p1), .val (.int p2), .val (.int p3), .val (.double xw), .second, .val (.int xi), .val (.double xt), .second, .val (.double xl), .second, .val (.double d1), .second, .val (.double d2), .second, .val (.double d3), .second, .val (.int (1 : Int32)), .val (.int (p3 &&& (3 : Int32)))]) rfl kt) ?_
          show own_Go p e below _ (T8.setTop (mkF m 298 #[.val (.int p0), .val (.int p1), .val (.int p2), .val (.int p3), .val (.double xw), .second, .val (.int xi), .val (.double xt), .second, .val (.double xl), .second, .val (.double d1), .second, .val (.double d2), .second, .val (.double d3), .second, .val (.int (1 : Int32)), .val (.int (p3 &&& (3 : Int32)))] []))
          refine own_Go.st (fun _ kt => XS.goto X8.here hx rfl (pc0 := 298) (pc' := 339) rfl (hb hby at_298) (by decide) (by decide) kt) ?_
          show own_Go p e below _ (T8.setTop (mkF m 339 #[.val (.int p0), .val (.int p1), .val (.int p2), .val (.int p3), .val (.double xw), .second, .val (.int xi), .val (.double xt), .second, .val (.double xl), .second, .val (.double d1), .second, .val (.double d2), .second, .val (.double d3), .second, .val (.int (1 : Int32)), .val (.int (p3 &&& (3 : Int32)))] []))
          refine own_Go.st (fun _ kt => XS.iload X8.here hx rfl (hb hby at_339) rfl kt) ?_
          show own_Go p e below _ (T8.setTop (mkF m 341 #[.val (.int p0), .val (.int p1), .val (.int p2), .val (.int p3), .val (.double xw), .second, .val (.int xi), .val (.double xt), .second, .val (.double xl), .second, .val (.double d1), .second, .val (.double d2), .second, .val (.double d3), .second, .val (.int (1 : Int32)), .val (.int (p3 &&& (3 : Int32)))] [(.int (1 : Int32))]))
          exact own_retZ X8 hx Bd.notSynchronized Bd.returns (Or.inr rfl) (hb hby at_341) (by decide) (by decide) ⟨rfl, N8⟩
        · refine own_Go.st (fun _ kt => XS.icmpYes X5.here hx rfl (pc0 := 260) (pc' := 301) rfl (hb hby at_260) rfl (feq hm2).2 (by decide) (by decide) kt) ?_
          show own_Go p e below _ (T5.setTop (mkF m 301 #[.val (.int p0), .val (.int p1), .val (.int p2), .val (.int p3), .val (.double xw), .second, .val (.int xi), .val (.double xt), .second, .val (.double xl), .second, .val (.double d1), .second, .val (.double d2), .second, .val (.double d3), .second, .val (.int (1 : Int32)), .val (.int (p3 &&& (3 : Int32)))] []))
          refine own_Go.st (fun _ kt => XS.iload X5.here hx rfl (hb hby at_301) rfl kt) ?_
          show own_Go p e below _ (T5.setTop (mkF m 303 #[.val (.int p0), .val (.int p1), .val (.int p2), .val (.int p3), .val (.double xw), .second, .val (.int xi), .val (.double xt), .second, .val (.double xl), .second, .val (.double d1), .second, .val (.double d2), .second, .val (.double d3), .second, .val (.int (1 : Int32)), .val (.int (p3 &&& (3 : Int32)))] [(.int (1 : Int32))]))
          refine own_Go.st (fun _ kt => XS.ifNo X5.here hx rfl (hb hby at_303) rfl ((if0 _ _).trans (feq (by decide)).1) kt) ?_
          show own_Go p e below _ (T5.setTop (mkF m 306 #[.val (.int p0), .val (.int p1), .val (.int p2), .val (.int p3), .val (.double xw), .second, .val (.int xi), .val (.double xt), .second, .val (.double xl), .second, .val (.double d1), .second, .val (.double d2), .second, .val (.double d3), .second, .val (.int (1 : Int32)), .val (.int (p3 &&& (3 : Int32)))] []))
          refine own_Go.st (fun _ kt => XS.dload X5.here hx rfl (hb hby at_306) rfl kt) ?_
          show own_Go p e below _ (T5.setTop (mkF m 308 #[.val (.int p0), .val (.int p1), .val (.int p2), .val (.int p3), .val (.double xw), .second, .val (.int xi), .val (.double xt), .second, .val (.double xl), .second, .val (.double d1), .second, .val (.double d2), .second, .val (.double d3), .second, .val (.int (1 : Int32)), .val (.int (p3 &&& (3 : Int32)))] [(.double xw)]))
          refine own_Go.st (fun _ kt => XS.dload X5.here hx rfl (hb hby at_308) rfl kt) ?_
          show own_Go p e below _ (T5.setTop (mkF m 310 #[.val (.int p0), .val (.int p1), .val (.int p2), .val (.int p3), .val (.double xw), .second, .val (.int xi), .val (.double xt), .second, .val (.double xl), .second, .val (.double d1), .second, .val (.double d2), .second, .val (.double d3), .second, .val (.int (1 : Int32)), .val (.int (p3 &&& (3 : Int32)))] [(.double xt), (.double xw)]))
          refine own_Go.st (fun _ kt => XS.dconst0 X5.here hx rfl (hb hby at_310) rfl kt) ?_
          show own_Go p e below _ (T5.setTop (mkF m 311 #[.val (.int p0), .val (.int p1), .val (.int p2), .val (.int p3), .val (.double xw), .second, .val (.int xi), .val (.double xt), .second, .val (.double xl), .second, .val (.double d1), .second, .val (.double d2), .second, .val (.double d3), .second, .val (.int (1 : Int32)), .val (.int (p3 &&& (3 : Int32)))] [(.double FP.dconst0), (.double xt), (.double xw)]))
          obtain ⟨_, _, ⟨T9, L9, k9, n9⟩, -, X9, ⟨Lc9, hQ9, l9, y9, z9⟩, st9⟩ := Jvm.LawKit.callS X5 hx (y := (⟨"com/example/passagewise/passagewise/search/Bm25Formula", "part", "(DDD)D"⟩ : MethodName)) hown (mvT hZ (hw _ (List.mem_of_getElem? (i := 5) rfl))) (mvT hZ (hw _ (List.mem_of_getElem? (i := 6) rfl))) (mvT hZ (hw _ (List.mem_of_getElem? (i := 7) rfl))) (mvT hZ (hw _ (List.mem_of_getElem? (i := 8) rfl))) (by decide) (backOf (W := 0) (own_partP l Z a0 hw [] xw xt FP.dconst0 nw nt 0 h0 n0 Z0 dw dt own_z0 sw t0 bw (by omega)) hZ (hw _ (List.mem_of_getElem? (i := 8) rfl)) (hw _ (List.mem_of_getElem? (i := 7) rfl)) (by decide) (by decide)) (g := (mkF m 311 #[.val (.int p0), .val (.int p1), .val (.int p2), .val (.int p3), .val (.double xw), .second, .val (.int xi), .val (.double xt), .second, .val (.double xl), .second, .val (.double d1), .second, .val (.double d2), .second, .val (.double d3), .second, .val (.int (1 : Int32)), .val (.int (p3 &&& (3 : Int32)))] [(.double FP.dconst0), (.double xt), (.double xw)])) rfl (by rw [hml]; rfl) (argsL := [(.double xw), (.double xt), (.double FP.dconst0)]) (rest := []) (lenOf own_pd1 rfl) rfl (by show 2 * 0 + _ ≤ _; exact Nat.le_of_eq rfl) (hb hby at_311) (fun _ _ => ⟨rfl, e5, (by decide : 0 + 0 ≤ _), (by decide : 0 + 0 ≤ _)⟩)
          dsimp only [Pt.U, Pt.locs, Pt.cells, Pt.slots] at X9 l9 y9 z9 st9 hQ9
          subst l9 y9 z9
          obtain ⟨d4, y4, rfl, N9q, r4, q4, hh9⟩ := hQ9
          have N9 := Fr.app N5 N9q
          refine own_Go.st (fun _ kt => st9 _ kt) ?_
          show own_Go p e below _ (T9.setTop (mkF m 314 #[.val (.int p0), .val (.int p1), .val (.int p2), .val (.int p3), .val (.double xw), .second, .val (.int xi), .val (.double xt), .second, .val (.double xl), .second, .val (.double d1), .second, .val (.double d2), .second, .val (.double d3), .second, .val (.int (1 : Int32)), .val (.int (p3 &&& (3 : Int32)))] [(.double d4)]))
          rw [own_eqU bw t0] at r4
          refine own_Go.st (fun _ kt => XS.dload X9.here hx rfl (hb hby at_314) rfl kt) ?_
          show own_Go p e below _ (T9.setTop (mkF m 316 #[.val (.int p0), .val (.int p1), .val (.int p2), .val (.int p3), .val (.double xw), .second, .val (.int xi), .val (.double xt), .second, .val (.double xl), .second, .val (.double d1), .second, .val (.double d2), .second, .val (.double d3), .second, .val (.int (1 : Int32)), .val (.int (p3 &&& (3 : Int32)))] [(.double xw), (.double d4)]))
          refine own_Go.st (fun _ kt => XS.dcmpS X9.here hx rfl (hb hby at_316) rfl (own_deq r4 dw _) kt) ?_
          show own_Go p e below _ (T9.setTop (mkF m 317 #[.val (.int p0), .val (.int p1), .val (.int p2), .val (.int p3), .val (.double xw), .second, .val (.int xi), .val (.double xt), .second, .val (.double xl), .second, .val (.double d1), .second, .val (.double d2), .second, .val (.double d3), .second, .val (.int (1 : Int32)), .val (.int (p3 &&& (3 : Int32)))] [(.int (0 : Int32))]))
          refine own_Go.st (fun _ kt => XS.ifNo X9.here hx rfl (hb hby at_317) rfl ((if0 _ _).trans (teq rfl).2) kt) ?_
          show own_Go p e below _ (T9.setTop (mkF m 320 #[.val (.int p0), .val (.int p1), .val (.int p2), .val (.int p3), .val (.double xw), .second, .val (.int xi), .val (.double xt), .second, .val (.double xl), .second, .val (.double d1), .second, .val (.double d2), .second, .val (.double d3), .second, .val (.int (1 : Int32)), .val (.int (p3 &&& (3 : Int32)))] []))
          refine own_Go.st (fun _ kt => XS.dload X9.here hx rfl (hb hby at_320) rfl kt) ?_
          show own_Go p e below _ (T9.setTop (mkF m 322 #[.val (.int p0), .val (.int p1), .val (.int p2), .val (.int p3), .val (.double xw), .second, .val (.int xi), .val (.double xt), .second, .val (.double xl), .second, .val (.double d1), .second, .val (.double d2), .second, .val (.double d3), .second, .val (.int (1 : Int32)), .val (.int (p3 &&& (3 : Int32)))] [(.double xw)]))
          refine own_Go.st (fun _ kt => XS.dconst0 X9.here hx rfl (hb hby at_322) rfl kt) ?_
          show own_Go p e below _ (T9.setTop (mkF m 323 #[.val (.int p0), .val (.int p1), .val (.int p2), .val (.int p3), .val (.double xw), .second, .val (.int xi), .val (.double xt), .second, .val (.double xl), .second, .val (.double d1), .second, .val (.double d2), .second, .val (.double d3), .second, .val (.int (1 : Int32)), .val (.int (p3 &&& (3 : Int32)))] [(.double FP.dconst0), (.double xw)]))
          refine own_Go.st (fun _ kt => XS.dconst0 X9.here hx rfl (hb hby at_323) rfl kt) ?_
          show own_Go p e below _ (T9.setTop (mkF m 324 #[.val (.int p0), .val (.int p1), .val (.int p2), .val (.int p3), .val (.double xw), .second, .val (.int xi), .val (.double xt), .second, .val (.double xl), .second, .val (.double d1), .second, .val (.double d2), .second, .val (.double d3), .second, .val (.int (1 : Int32)), .val (.int (p3 &&& (3 : Int32)))] [(.double FP.dconst0), (.double FP.dconst0), (.double xw)]))
          obtain ⟨_, _, ⟨T10, L10, k10, n10⟩, -, X10, ⟨Lc10, hQ10, l10, y10, z10⟩, st10⟩ := Jvm.LawKit.callS X9 hx (y := (⟨"com/example/passagewise/passagewise/search/Bm25Formula", "part", "(DDD)D"⟩ : MethodName)) hown (mvT hZ (hw _ (List.mem_of_getElem? (i := 5) rfl))) (mvT hZ (hw _ (List.mem_of_getElem? (i := 6) rfl))) (mvT hZ (hw _ (List.mem_of_getElem? (i := 7) rfl))) (mvT hZ (hw _ (List.mem_of_getElem? (i := 8) rfl))) (by decide) (backOf (W := 0) (own_partZ l Z a0 hw [] xw FP.dconst0 h0 n0 Z0 ) hZ (hw _ (List.mem_of_getElem? (i := 8) rfl)) (hw _ (List.mem_of_getElem? (i := 7) rfl)) (by decide) (by decide)) (g := (mkF m 324 #[.val (.int p0), .val (.int p1), .val (.int p2), .val (.int p3), .val (.double xw), .second, .val (.int xi), .val (.double xt), .second, .val (.double xl), .second, .val (.double d1), .second, .val (.double d2), .second, .val (.double d3), .second, .val (.int (1 : Int32)), .val (.int (p3 &&& (3 : Int32)))] [(.double FP.dconst0), (.double FP.dconst0), (.double xw)])) rfl (by rw [hml]; rfl) (argsL := [(.double xw), (.double FP.dconst0), (.double FP.dconst0)]) (rest := []) (lenOf own_pd1 rfl) rfl (by show 2 * 0 + _ ≤ _; exact Nat.le_of_eq rfl) (hb hby at_324) (fun _ _ => ⟨rfl, hh9, (by decide : 0 + 0 ≤ _), (by decide : 0 + 0 ≤ _)⟩)
          dsimp only [Pt.U, Pt.locs, Pt.cells, Pt.slots] at X10 l10 y10 z10 st10 hQ10
          subst l10 y10 z10
          obtain ⟨rfl, N10q, hh10⟩ := hQ10
          have N10 := Fr.app N9 N10q
          refine own_Go.st (fun _ kt => st10 _ kt) ?_
          show own_Go p e below _ (T10.setTop (mkF m 327 #[.val (.int p0), .val (.int p1), .val (.int p2), .val (.int p3), .val (.double xw), .second, .val (.int xi), .val (.double xt), .second, .val (.double xl), .second, .val (.double d1), .second, .val (.double d2), .second, .val (.double d3), .second, .val (.int (1 : Int32)), .val (.int (p3 &&& (3 : Int32)))] [(.double FP.dconst0)]))
          refine own_Go.st (fun _ kt => XS.dconst0 X10.here hx rfl (hb hby at_327) rfl kt) ?_
          show own_Go p e below _ (T10.setTop (mkF m 328 #[.val (.int p0), .val (.int p1), .val (.int p2), .val (.int p3), .val (.double xw), .second, .val (.int xi), .val (.double xt), .second, .val (.double xl), .second, .val (.double d1), .second, .val (.double d2), .second, .val (.double d3), .second, .val (.int (1 : Int32)), .val (.int (p3 &&& (3 : Int32)))] [(.double FP.dconst0), (.double FP.dconst0)]))
          refine own_Go.st (fun _ kt => XS.dcmpS X10.here hx rfl (hb hby at_328) rfl (own_deq own_zero own_zero _) kt) ?_
          show own_Go p e below _ (T10.setTop (mkF m 329 #[.val (.int p0), .val (.int p1), .val (.int p2), .val (.int p3), .val (.double xw), .second, .val (.int xi), .val (.double xt), .second, .val (.double xl), .second, .val (.double d1), .second, .val (.double d2), .second, .val (.double d3), .second, .val (.int (1 : Int32)), .val (.int (p3 &&& (3 : Int32)))] [(.int (0 : Int32))]))
          refine own_Go.st (fun _ kt => XS.ifNo X10.here hx rfl (hb hby at_329) rfl ((if0 _ _).trans (teq rfl).2) kt) ?_
          show own_Go p e below _ (T10.setTop (mkF m 332 #[.val (.int p0), .val (.int p1), .val (.int p2), .val (.int p3), .val (.double xw), .second, .val (.int xi), .val (.double xt), .second, .val (.double xl), .second, .val (.double d1), .second, .val (.double d2), .second, .val (.double d3), .second, .val (.int (1 : Int32)), .val (.int (p3 &&& (3 : Int32)))] []))
          refine own_Go.st (fun _ kt => XS.iconst X10.here hx rfl (hb hby at_332) kt) ?_
          show own_Go p e below _ (T10.setTop (mkF m 333 #[.val (.int p0), .val (.int p1), .val (.int p2), .val (.int p3), .val (.double xw), .second, .val (.int xi), .val (.double xt), .second, .val (.double xl), .second, .val (.double d1), .second, .val (.double d2), .second, .val (.double d3), .second, .val (.int (1 : Int32)), .val (.int (p3 &&& (3 : Int32)))] [(.int (1 : Int32))]))
          refine own_Go.st (fun _ kt => XS.goto X10.here hx rfl (pc0 := 333) (pc' := 337) rfl (hb hby at_333) (by decide) (by decide) kt) ?_
          show own_Go p e below _ (T10.setTop (mkF m 337 #[.val (.int p0), .val (.int p1), .val (.int p2), .val (.int p3), .val (.double xw), .second, .val (.int xi), .val (.double xt), .second, .val (.double xl), .second, .val (.double d1), .second, .val (.double d2), .second, .val (.double d3), .second, .val (.int (1 : Int32)), .val (.int (p3 &&& (3 : Int32)))] [(.int (1 : Int32))]))
          refine own_Go.st (fun _ kt => XS.istore X10.here hx rfl (hb hby at_337) rfl (l' := #[.val (.int p0), .val (.int p1), .val (.int p2), .val (.int p3), .val (.double xw), .second, .val (.int xi), .val (.double xt), .second, .val (.double xl), .second, .val (.double d1), .second, .val (.double d2), .second, .val (.double d3), .second, .val (.int (1 : Int32)), .val (.int (p3 &&& (3 : Int32)))]) rfl kt) ?_
          show own_Go p e below _ (T10.setTop (mkF m 339 #[.val (.int p0), .val (.int p1), .val (.int p2), .val (.int p3), .val (.double xw), .second, .val (.int xi), .val (.double xt), .second, .val (.double xl), .second, .val (.double d1), .second, .val (.double d2), .second, .val (.double d3), .second, .val (.int (1 : Int32)), .val (.int (p3 &&& (3 : Int32)))] []))
          refine own_Go.st (fun _ kt => XS.iload X10.here hx rfl (hb hby at_339) rfl kt) ?_
          show own_Go p e below _ (T10.setTop (mkF m 341 #[.val (.int p0), .val (.int p1), .val (.int p2), .val (.int p3), .val (.double xw), .second, .val (.int xi), .val (.double xt), .second, .val (.double xl), .second, .val (.double d1), .second, .val (.double d2), .second, .val (.double d3), .second, .val (.int (1 : Int32)), .val (.int (p3 &&& (3 : Int32)))] [(.int (1 : Int32))]))
          exact own_retZ X10 hx Bd.notSynchronized Bd.returns (Or.inr rfl) (hb hby at_341) (by decide) (by decide) ⟨rfl, N10⟩
  refine own_Go.st (fun _ kt => XS.dload X4.here hx rfl (hb hby at_103) rfl kt) ?_
  show own_Go p e below _ (T4.setTop (mkF m 105 #[.val (.int p0), .val (.int p1), .val (.int p2), .val (.int p3), .val (.double xw), .second, .val (.int xi), .val (.double xt), .second, .val (.double xl), .second, .val (.double d1), .second, .val (.double d2), .second, .val (.double d3), .second, .val (.int (1 : Int32)), .unset] [(.double xw)]))
  refine own_Go.st (fun _ kt => XS.dconst0 X4.here hx rfl (hb hby at_105) rfl kt) ?_
  show own_Go p e below _ (T4.setTop (mkF m 106 #[.val (.int p0), .val (.int p1), .val (.int p2), .val (.int p3), .val (.double xw), .second, .val (.int xi), .val (.double xt), .second, .val (.double xl), .second, .val (.double d1), .second, .val (.double d2), .second, .val (.double d3), .second, .val (.int (1 : Int32)), .unset] [(.double FP.dconst0), (.double xw)]))
  by_cases hw0 : 0 < nw
  · have pw : (0 : Int) < ((nw * own_U : Nat) : Int) := Int.natCast_pos.mpr (Nat.mul_pos hw0 own_Upos)
    refine own_Go.st (fun _ kt => XS.dcmpS X4.here hx rfl (hb hby at_106) rfl (own_c1 dw own_zero pw _) kt) ?_
    show own_Go p e below _ (T4.setTop (mkF m 107 #[.val (.int p0), .val (.int p1), .val (.int p2), .val (.int p3), .val (.double xw), .second, .val (.int xi), .val (.double xt), .second, .val (.double xl), .second, .val (.double d1), .second, .val (.double d2), .second, .val (.double d3), .second, .val (.int (1 : Int32)), .unset] [(.int (1 : Int32))]))
    refine own_Go.st (fun _ kt => XS.ifNo X4.here hx rfl (hb hby at_107) rfl ((if0 _ _).trans (tlt (by decide)).2.2.2) kt) ?_
    show own_Go p e below _ (T4.setTop (mkF m 110 #[.val (.int p0), .val (.int p1), .val (.int p2), .val (.int p3), .val (.double xw), .second, .val (.int xi), .val (.double xt), .second, .val (.double xl), .second, .val (.double d1), .second, .val (.double d2), .second, .val (.double d3), .second, .val (.int (1 : Int32)), .unset] []))
    refine own_Go.st (fun _ kt => XS.iload X4.here hx rfl (hb hby at_110) rfl kt) ?_
    show own_Go p e below _ (T4.setTop (mkF m 112 #[.val (.int p0), .val (.int p1), .val (.int p2), .val (.int p3), .val (.double xw), .second, .val (.int xi), .val (.double xt), .second, .val (.double xl), .second, .val (.double d1), .second, .val (.double d2), .second, .val (.double d3), .second, .val (.int (1 : Int32)), .unset] [(.int (1 : Int32))]))
    refine own_Go.st (fun _ kt => XS.ifNo X4.here hx rfl (hb hby at_112) rfl ((if0 _ _).trans (feq (by decide)).1) kt) ?_
    show own_Go p e below _ (T4.setTop (mkF m 115 #[.val (.int p0), .val (.int p1), .val (.int p2), .val (.int p3), .val (.double xw), .second, .val (.int xi), .val (.double xt), .second, .val (.double xl), .second, .val (.double d1), .second, .val (.double d2), .second, .val (.double d3), .second, .val (.int (1 : Int32)), .unset] []))
    refine own_Go.st (fun _ kt => XS.dload X4.here hx rfl (hb hby at_115) rfl kt) ?_
    show own_Go p e below _ (T4.setTop (mkF m 117 #[.val (.int p0), .val (.int p1), .val (.int p2), .val (.int p3), .val (.double xw), .second, .val (.int xi), .val (.double xt), .second, .val (.double xl), .second, .val (.double d1), .second, .val (.double d2), .second, .val (.double d3), .second, .val (.int (1 : Int32)), .unset] [(.double d1)]))
    refine own_Go.st (fun _ kt => XS.dconst0 X4.here hx rfl (hb hby at_117) rfl kt) ?_
    show own_Go p e below _ (T4.setTop (mkF m 118 #[.val (.int p0), .val (.int p1), .val (.int p2), .val (.int p3), .val (.double xw), .second, .val (.int xi), .val (.double xt), .second, .val (.double xl), .second, .val (.double d1), .second, .val (.double d2), .second, .val (.double d3), .second, .val (.int (1 : Int32)), .unset] [(.double FP.dconst0), (.double d1)]))
    refine own_Go.st (fun _ kt => XS.dcmpS X4.here hx rfl (hb hby at_118) rfl (own_c1 r1 own_zero (Int.natCast_pos.mpr (own_rpos hw0 t0 (by omega) q1)) _) kt) ?_
    show own_Go p e below _ (T4.setTop (mkF m 119 #[.val (.int p0), .val (.int p1), .val (.int p2), .val (.int p3), .val (.double xw), .second, .val (.int xi), .val (.double xt), .second, .val (.double xl), .second, .val (.double d1), .second, .val (.double d2), .second, .val (.double d3), .second, .val (.int (1 : Int32)), .unset] [(.int (1 : Int32))]))
    refine own_Go.st (fun _ kt => XS.ifNo X4.here hx rfl (hb hby at_119) rfl ((if0 _ _).trans (tlt (by decide)).2.2.2) kt) ?_
    show own_Go p e below _ (T4.setTop (mkF m 122 #[.val (.int p0), .val (.int p1), .val (.int p2), .val (.int p3), .val (.double xw), .second, .val (.int xi), .val (.double xt), .second, .val (.double xl), .second, .val (.double d1), .second, .val (.double d2), .second, .val (.double d3), .second, .val (.int (1 : Int32)), .unset] []))
    refine own_Go.st (fun _ kt => XS.iconst X4.here hx rfl (hb hby at_122) kt) ?_
    show own_Go p e below _ (T4.setTop (mkF m 123 #[.val (.int p0), .val (.int p1), .val (.int p2), .val (.int p3), .val (.double xw), .second, .val (.int xi), .val (.double xt), .second, .val (.double xl), .second, .val (.double d1), .second, .val (.double d2), .second, .val (.double d3), .second, .val (.int (1 : Int32)), .unset] [(.int (1 : Int32))]))
    refine own_Go.st (fun _ kt => XS.goto X4.here hx rfl (pc0 := 123) (pc' := 127) rfl (hb hby at_123) (by decide) (by decide) kt) ?_
    show own_Go p e below _ (T4.setTop (mkF m 127 #[.val (.int p0), .val (.int p1), .val (.int p2), .val (.int p3), .val (.double xw), .second, .val (.int xi), .val (.double xt), .second, .val (.double xl), .second, .val (.double d1), .second, .val (.double d2), .second, .val (.double d3), .second, .val (.int (1 : Int32)), .unset] [(.int (1 : Int32))]))
    refine own_Go.st (fun _ kt => XS.istore X4.here hx rfl (hb hby at_127) rfl (l' := #[.val (.int p0), .val (.int p1), .val (.int p2), .val (.int p3), .val (.double xw), .second, .val (.int xi), .val (.double xt), .second, .val (.double xl), .second, .val (.double d1), .second, .val (.double d2), .second, .val (.double d3), .second, .val (.int (1 : Int32)), .unset]) rfl kt) ?_
    show own_Go p e below _ (T4.setTop (mkF m 129 #[.val (.int p0), .val (.int p1), .val (.int p2), .val (.int p3), .val (.double xw), .second, .val (.int xi), .val (.double xt), .second, .val (.double xl), .second, .val (.double d1), .second, .val (.double d2), .second, .val (.double d3), .second, .val (.int (1 : Int32)), .unset] []))
    refine own_Go.st (fun _ kt => XS.dload X4.here hx rfl (hb hby at_129) rfl kt) ?_
    show own_Go p e below _ (T4.setTop (mkF m 131 #[.val (.int p0), .val (.int p1), .val (.int p2), .val (.int p3), .val (.double xw), .second, .val (.int xi), .val (.double xt), .second, .val (.double xl), .second, .val (.double d1), .second, .val (.double d2), .second, .val (.double d3), .second, .val (.int (1 : Int32)), .unset] [(.double xl)]))
    refine own_Go.st (fun _ kt => XS.dconst0 X4.here hx rfl (hb hby at_131) rfl kt) ?_
    show own_Go p e below _ (T4.setTop (mkF m 132 #[.val (.int p0), .val (.int p1), .val (.int p2), .val (.int p3), .val (.double xw), .second, .val (.int xi), .val (.double xt), .second, .val (.double xl), .second, .val (.double d1), .second, .val (.double d2), .second, .val (.double d3), .second, .val (.int (1 : Int32)), .unset] [(.double FP.dconst0), (.double xl)]))
    by_cases hl0 : 0 < nl
    · have pl : (0 : Int) < ((nl * own_U : Nat) : Int) := Int.natCast_pos.mpr (Nat.mul_pos hl0 own_Upos)
      refine own_Go.st (fun _ kt => XS.dcmpS X4.here hx rfl (hb hby at_132) rfl (own_c1 dl own_zero pl _) kt) ?_
      show own_Go p e below _ (T4.setTop (mkF m 133 #[.val (.int p0), .val (.int p1), .val (.int p2), .val (.int p3), .val (.double xw), .second, .val (.int xi), .val (.double xt), .second, .val (.double xl), .second, .val (.double d1), .second, .val (.double d2), .second, .val (.double d3), .second, .val (.int (1 : Int32)), .unset] [(.int (1 : Int32))]))
      refine own_Go.st (fun _ kt => XS.ifNo X4.here hx rfl (hb hby at_133) rfl ((if0 _ _).trans (tlt (by decide)).2.2.2) kt) ?_
      show own_Go p e below _ (T4.setTop (mkF m 136 #[.val (.int p0), .val (.int p1), .val (.int p2), .val (.int p3), .val (.double xw), .second, .val (.int xi), .val (.double xt), .second, .val (.double xl), .second, .val (.double d1), .second, .val (.double d2), .second, .val (.double d3), .second, .val (.int (1 : Int32)), .unset] []))
      refine own_Go.st (fun _ kt => XS.iload X4.here hx rfl (hb hby at_136) rfl kt) ?_
      show own_Go p e below _ (T4.setTop (mkF m 138 #[.val (.int p0), .val (.int p1), .val (.int p2), .val (.int p3), .val (.double xw), .second, .val (.int xi), .val (.double xt), .second, .val (.double xl), .second, .val (.double d1), .second, .val (.double d2), .second, .val (.double d3), .second, .val (.int (1 : Int32)), .unset] [(.int (1 : Int32))]))
      refine own_Go.st (fun _ kt => XS.ifNo X4.here hx rfl (hb hby at_138) rfl ((if0 _ _).trans (feq (by decide)).1) kt) ?_
      show own_Go p e below _ (T4.setTop (mkF m 141 #[.val (.int p0), .val (.int p1), .val (.int p2), .val (.int p3), .val (.double xw), .second, .val (.int xi), .val (.double xt), .second, .val (.double xl), .second, .val (.double d1), .second, .val (.double d2), .second, .val (.double d3), .second, .val (.int (1 : Int32)), .unset] []))
      refine own_Go.st (fun _ kt => XS.dload X4.here hx rfl (hb hby at_141) rfl kt) ?_
      show own_Go p e below _ (T4.setTop (mkF m 143 #[.val (.int p0), .val (.int p1), .val (.int p2), .val (.int p3), .val (.double xw), .second, .val (.int xi), .val (.double xt), .second, .val (.double xl), .second, .val (.double d1), .second, .val (.double d2), .second, .val (.double d3), .second, .val (.int (1 : Int32)), .unset] [(.double d1)]))
      refine own_Go.st (fun _ kt => XS.dload X4.here hx rfl (hb hby at_143) rfl kt) ?_
      show own_Go p e below _ (T4.setTop (mkF m 145 #[.val (.int p0), .val (.int p1), .val (.int p2), .val (.int p3), .val (.double xw), .second, .val (.int xi), .val (.double xt), .second, .val (.double xl), .second, .val (.double d1), .second, .val (.double d2), .second, .val (.double d3), .second, .val (.int (1 : Int32)), .unset] [(.double xw), (.double d1)]))
      refine own_Go.st (fun _ kt => XS.dcmpS X4.here hx rfl (hb hby at_145) rfl (own_cm r1 dw (Int.ofNat_lt.mpr (own_zp_lt hw0 bw hl0 bt)) _) kt) ?_
      show own_Go p e below _ (T4.setTop (mkF m 146 #[.val (.int p0), .val (.int p1), .val (.int p2), .val (.int p3), .val (.double xw), .second, .val (.int xi), .val (.double xt), .second, .val (.double xl), .second, .val (.double d1), .second, .val (.double d2), .second, .val (.double d3), .second, .val (.int (1 : Int32)), .unset] [(.int (-1 : Int32))]))
      refine own_Go.st (fun _ kt => XS.ifNo X4.here hx rfl (hb hby at_146) rfl ((if0 _ _).trans (tlt (by decide)).2.1) kt) ?_
      show own_Go p e below _ (T4.setTop (mkF m 149 #[.val (.int p0), .val (.int p1), .val (.int p2), .val (.int p3), .val (.double xw), .second, .val (.int xi), .val (.double xt), .second, .val (.double xl), .second, .val (.double d1), .second, .val (.double d2), .second, .val (.double d3), .second, .val (.int (1 : Int32)), .unset] []))
      refine own_Go.st (fun _ kt => XS.iconst X4.here hx rfl (hb hby at_149) kt) ?_
      show own_Go p e below _ (T4.setTop (mkF m 150 #[.val (.int p0), .val (.int p1), .val (.int p2), .val (.int p3), .val (.double xw), .second, .val (.int xi), .val (.double xt), .second, .val (.double xl), .second, .val (.double d1), .second, .val (.double d2), .second, .val (.double d3), .second, .val (.int (1 : Int32)), .unset] [(.int (1 : Int32))]))
      refine own_Go.st (fun _ kt => XS.goto X4.here hx rfl (pc0 := 150) (pc' := 154) rfl (hb hby at_150) (by decide) (by decide) kt) ?_
      show own_Go p e below _ (T4.setTop (mkF m 154 #[.val (.int p0), .val (.int p1), .val (.int p2), .val (.int p3), .val (.double xw), .second, .val (.int xi), .val (.double xt), .second, .val (.double xl), .second, .val (.double d1), .second, .val (.double d2), .second, .val (.double d3), .second, .val (.int (1 : Int32)), .unset] [(.int (1 : Int32))]))
      refine own_Go.st (fun _ kt => XS.istore X4.here hx rfl (hb hby at_154) rfl (l' := #[.val (.int p0), .val (.int p1), .val (.int p2), .val (.int p3), .val (.double xw), .second, .val (.int xi), .val (.double xt), .second, .val (.double xl), .second, .val (.double d1), .second, .val (.double d2), .second, .val (.double d3), .second, .val (.int (1 : Int32)), .unset]) rfl kt) ?_
      show own_Go p e below _ (T4.setTop (mkF m 156 #[.val (.int p0), .val (.int p1), .val (.int p2), .val (.int p3), .val (.double xw), .second, .val (.int xi), .val (.double xt), .second, .val (.double xl), .second, .val (.double d1), .second, .val (.double d2), .second, .val (.double d3), .second, .val (.int (1 : Int32)), .unset] []))
      refine own_Go.st (fun _ kt => XS.goto X4.here hx rfl (pc0 := 156) (pc' := 179) rfl (hb hby at_156) (by decide) (by decide) kt) ?_
      show own_Go p e below _ (T4.setTop (mkF m 179 #[.val (.int p0), .val (.int p1), .val (.int p2), .val (.int p3), .val (.double xw), .second, .val (.int xi), .val (.double xt), .second, .val (.double xl), .second, .val (.double d1), .second, .val (.double d2), .second, .val (.double d3), .second, .val (.int (1 : Int32)), .unset] []))
      exact J179 _ _ X4 hh4 N4 
    · obtain rfl : nl = 0 := by omega
      have dl' := dl
      rw [Nat.zero_mul] at dl'
      rw [own_eqU bw t0] at r1
      refine own_Go.st (fun _ kt => XS.dcmpS X4.here hx rfl (hb hby at_132) rfl (own_deq dl' own_zero _) kt) ?_
      show own_Go p e below _ (T4.setTop (mkF m 133 #[.val (.int p0), .val (.int p1), .val (.int p2), .val (.int p3), .val (.double xw), .second, .val (.int xi), .val (.double xt), .second, .val (.double xl), .second, .val (.double d1), .second, .val (.double d2), .second, .val (.double d3), .second, .val (.int (1 : Int32)), .unset] [(.int (0 : Int32))]))
      refine own_Go.st (fun _ kt => XS.ifYes X4.here hx rfl (pc0 := 133) (pc' := 159) rfl (hb hby at_133) rfl ((if0 _ _).trans (flt (by decide)).2.2.2) (by decide) (by decide) kt) ?_
      show own_Go p e below _ (T4.setTop (mkF m 159 #[.val (.int p0), .val (.int p1), .val (.int p2), .val (.int p3), .val (.double xw), .second, .val (.int xi), .val (.double xt), .second, .val (.double xl), .second, .val (.double d1), .second, .val (.double d2), .second, .val (.double d3), .second, .val (.int (1 : Int32)), .unset] []))
      refine own_Go.st (fun _ kt => XS.iload X4.here hx rfl (hb hby at_159) rfl kt) ?_
      show own_Go p e below _ (T4.setTop (mkF m 161 #[.val (.int p0), .val (.int p1), .val (.int p2), .val (.int p3), .val (.double xw), .second, .val (.int xi), .val (.double xt), .second, .val (.double xl), .second, .val (.double d1), .second, .val (.double d2), .second, .val (.double d3), .second, .val (.int (1 : Int32)), .unset] [(.int (1 : Int32))]))
      refine own_Go.st (fun _ kt => XS.ifNo X4.here hx rfl (hb hby at_161) rfl ((if0 _ _).trans (feq (by decide)).1) kt) ?_
      show own_Go p e below _ (T4.setTop (mkF m 164 #[.val (.int p0), .val (.int p1), .val (.int p2), .val (.int p3), .val (.double xw), .second, .val (.int xi), .val (.double xt), .second, .val (.double xl), .second, .val (.double d1), .second, .val (.double d2), .second, .val (.double d3), .second, .val (.int (1 : Int32)), .unset] []))
      refine own_Go.st (fun _ kt => XS.dload X4.here hx rfl (hb hby at_164) rfl kt) ?_
      show own_Go p e below _ (T4.setTop (mkF m 166 #[.val (.int p0), .val (.int p1), .val (.int p2), .val (.int p3), .val (.double xw), .second, .val (.int xi), .val (.double xt), .second, .val (.double xl), .second, .val (.double d1), .second, .val (.double d2), .second, .val (.double d3), .second, .val (.int (1 : Int32)), .unset] [(.double d1)]))
      refine own_Go.st (fun _ kt => XS.dload X4.here hx rfl (hb hby at_166) rfl kt) ?_
      show own_Go p e below _ (T4.setTop (mkF m 168 #[.val (.int p0), .val (.int p1), .val (.int p2), .val (.int p3), .val (.double xw), .second, .val (.int xi), .val (.double xt), .second, .val (.double xl), .second, .val (.double d1), .second, .val (.double d2), .second, .val (.double d3), .second, .val (.int (1 : Int32)), .unset] [(.double xw), (.double d1)]))
      refine own_Go.st (fun _ kt => XS.dcmpS X4.here hx rfl (hb hby at_168) rfl (own_deq r1 dw _) kt) ?_
      show own_Go p e below _ (T4.setTop (mkF m 169 #[.val (.int p0), .val (.int p1), .val (.int p2), .val (.int p3), .val (.double xw), .second, .val (.int xi), .val (.double xt), .second, .val (.double xl), .second, .val (.double d1), .second, .val (.double d2), .second, .val (.double d3), .second, .val (.int (1 : Int32)), .unset] [(.int (0 : Int32))]))
      refine own_Go.st (fun _ kt => XS.ifNo X4.here hx rfl (hb hby at_169) rfl ((if0 _ _).trans (teq rfl).2) kt) ?_
      show own_Go p e below _ (T4.setTop (mkF m 172 #[.val (.int p0), .val (.int p1), .val (.int p2), .val (.int p3), .val (.double xw), .second, .val (.int xi), .val (.double xt), .second, .val (.double xl), .second, .val (.double d1), .second, .val (.double d2), .second, .val (.double d3), .second, .val (.int (1 : Int32)), .unset] []))
      refine own_Go.st (fun _ kt => XS.iconst X4.here hx rfl (hb hby at_172) kt) ?_
      show own_Go p e below _ (T4.setTop (mkF m 173 #[.val (.int p0), .val (.int p1), .val (.int p2), .val (.int p3), .val (.double xw), .second, .val (.int xi), .val (.double xt), .second, .val (.double xl), .second, .val (.double d1), .second, .val (.double d2), .second, .val (.double d3), .second, .val (.int (1 : Int32)), .unset] [(.int (1 : Int32))]))
      refine own_Go.st (fun _ kt => XS.goto X4.here hx rfl (pc0 := 173) (pc' := 177) rfl (hb hby at_173) (by decide) (by decide) kt) ?_
      show own_Go p e below _ (T4.setTop (mkF m 177 #[.val (.int p0), .val (.int p1), .val (.int p2), .val (.int p3), .val (.double xw), .second, .val (.int xi), .val (.double xt), .second, .val (.double xl), .second, .val (.double d1), .second, .val (.double d2), .second, .val (.double d3), .second, .val (.int (1 : Int32)), .unset] [(.int (1 : Int32))]))
      refine own_Go.st (fun _ kt => XS.istore X4.here hx rfl (hb hby at_177) rfl (l' := #[.val (.int p0), .val (.int p1), .val (.int p2), .val (.int p3), .val (.double xw), .second, .val (.int xi), .val (.double xt), .second, .val (.double xl), .second, .val (.double d1), .second, .val (.double d2), .second, .val (.double d3), .second, .val (.int (1 : Int32)), .unset]) rfl kt) ?_
      show own_Go p e below _ (T4.setTop (mkF m 179 #[.val (.int p0), .val (.int p1), .val (.int p2), .val (.int p3), .val (.double xw), .second, .val (.int xi), .val (.double xt), .second, .val (.double xl), .second, .val (.double d1), .second, .val (.double d2), .second, .val (.double d3), .second, .val (.int (1 : Int32)), .unset] []))
      exact J179 _ _ X4 hh4 N4 
  · obtain rfl : nw = 0 := by omega
    have dw' := dw
    rw [Nat.zero_mul] at dw'
    refine own_Go.st (fun _ kt => XS.dcmpS X4.here hx rfl (hb hby at_106) rfl (own_deq dw' own_zero _) kt) ?_
    show own_Go p e below _ (T4.setTop (mkF m 107 #[.val (.int p0), .val (.int p1), .val (.int p2), .val (.int p3), .val (.double xw), .second, .val (.int xi), .val (.double xt), .second, .val (.double xl), .second, .val (.double d1), .second, .val (.double d2), .second, .val (.double d3), .second, .val (.int (1 : Int32)), .unset] [(.int (0 : Int32))]))
    refine own_Go.st (fun _ kt => XS.ifYes X4.here hx rfl (pc0 := 107) (pc' := 179) rfl (hb hby at_107) rfl ((if0 _ _).trans (flt (by decide)).2.2.2) (by decide) (by decide) kt) ?_
    show own_Go p e below _ (T4.setTop (mkF m 179 #[.val (.int p0), .val (.int p1), .val (.int p2), .val (.int p3), .val (.double xw), .second, .val (.int xi), .val (.double xt), .second, .val (.double xl), .second, .val (.double d1), .second, .val (.double d2), .second, .val (.double d3), .second, .val (.int (1 : Int32)), .unset] []))
    exact J179 _ _ X4 hh4 N4 
set_option maxRecDepth 65536 in
set_option maxHeartbeats 40000000 in
theorem own_comes_1 {Post : Tables → Env → Array Value → State → Outcome → State → Prop} (hpost : ∀ tb e args s v u, (limb_1_1.after args s (.returned v) u = true ∧ limb_1_2.after args s (.returned v) u = true ∧ True) → FrameEnd s (.returned v) u (Jvm.fieldLocs frame_1_writes args s ++ Jvm.arrayLocs frame_1_arrays args s ++ Jvm.staticLocs frame_1_statics s) 0 0 → Post tb e args s (.returned v) u) :
    ArmFor flags0 classFile x code maxLocals ret World_1 tables_1 room_1 Calls_1 rest_1 Pre_1 Post := by
  intro l hfl _ _ p e ha hc hk s m args below hf hA hF happ hP
  obtain ⟨hcalls, hrest, hpre⟩ := hP
  obtain ⟨-, -, -, hnamed, -, -, -, hat⟩ := (Spec.applies_iff hf).mp happ
  obtain ⟨hg, hn⟩ := and_e (Cond.before_iff.mp (show (Jvm.Cond.and given_1 narrow_1).before args s = true from hpre))
  obtain ⟨hg0, hg1⟩ := and_e hg
  obtain ⟨ha0, hb0⟩ := and_e hg1
  obtain ⟨ha1, hb1⟩ := and_e hb0
  obtain ⟨ha2, hb2⟩ := and_e hb1
  obtain ⟨w0, w1, w2, w3, rfl⟩ : ∃ w0 w1 w2 w3 : Value, args = #[w0, w1, w2, w3] := by
    have hs : args.size = 4 := by simpa [Cond.value, given_1] using hg0
    obtain ⟨L⟩ := args
    match L, hs with
    | [w0, w1, w2, w3], _ => exact ⟨w0, w1, w2, w3, rfl⟩
  have hw := fun d (hd : d ∈ tables_1) => atoms_spec (ws := Jvm.Cond.code x code maxLocals ret :: tables_1) hat d (List.mem_cons_of_mem _ hd)
  have hfit : Fit s := fun {y c} hc i hi => by
    obtain ⟨ha, rfl⟩ := Array.getElem?_eq_some_iff.mp hc
    have q := List.all_eq_true.mp ((Array.all_eq_true_iff_forall_mem.mp hF) _ (Array.getElem_mem ha)) i (List.mem_range.mpr hi)
    simpa [Array.getElem?_eq_getElem hi] using q
  obtain ⟨p0, ep0⟩ := is_v ha0
  obtain rfl : w0 = (.int p0) := Option.some.inj ep0
  obtain ⟨p1, ep1⟩ := is_v ha1
  obtain rfl : w1 = (.int p1) := Option.some.inj ep1
  obtain ⟨p2, ep2⟩ := is_v ha2
  obtain rfl : w2 = (.int p2) := Option.some.inj ep2
  obtain ⟨p3, ep3⟩ := is_v hb2
  obtain rfl : w3 = (.int p3) := Option.some.inj ep3

  obtain ⟨n, o, h1, h2, h3, _, L, rfl, ⟨rfl, N⟩, hq⟩ := own_law l s _ hw tables_1 p0 p1 p2 p3  s.heap s.heap.size (Nat.le_refl _)  p e ha hc hk s m _ below hf ((Spec.applies_iff_loose hf).mp happ).1 ⟨rfl, State.Warmed39.refl s, rfl⟩ trivial
  refine ⟨n, _, h1, h2, h3, hpost _ _ _ _ _ _ ⟨Cond.after_iff.mpr rfl, Cond.after_iff.mpr (eq_i res_at (Term.int_eval (1)) rfl), trivial⟩ ⟨hq.1, hq.2.1, (hq.2.2.sift fun y hy => Or.inr (N y hy)).mono (by decide) (by decide)⟩⟩
theorem main_1_1 : Claimed_1_1 := own_comes_1 fun _ _ _ _ _ _ h hF => ⟨h.1, hF⟩
theorem main_1_2 : Claimed_1_2 := own_comes_1 fun _ _ _ _ _ _ h hF => ⟨h.2.1, hF⟩

end Jvm.Pilot.@@N@@
namespace Jvm.Pilot.@@N@@
open Jvm Jvm.ClassFile Sem Op Lib Jvm.Free Jvm.Stand Jvm.Pilot.@@N@@.Jvm.D
/-! MADE BY PROGRAM (witnessworld.py) out of the Statement's table words and the real class files: 10 classes; the members and pool entries that the words name. The judged class is class 1, her method 1. -/
namespace start1
open Jvm.ClassFile
def u (s : String) : CpInfo := .utf8 (stringToUtf16 s)
/-- a pool by its gaps: so many unusable entries, then the entry; so many at the end -/
def gap : Nat → List CpInfo → List CpInfo
  | 0, r => r
  | n + 1, r => .unusable :: gap n r
def poolList (es : List (Nat × CpInfo)) (last : Nat) : List CpInfo := es.foldr (fun e r => gap e.1 (e.2 :: r)) (gap last [])
def pool (es : List (Nat × CpInfo)) (last : Nat) : Array CpInfo := ⟨poolList es last⟩
def fileOf (pool : Array CpInfo) (this : Nat) (attrs : Array Attribute := #[]) (ms : Array MethodInfo := #[]) (fl : Nat := 33) (sup : Nat := 0) (ifs : Array Nat := #[]) (fds : Array FieldInfo := #[]) : ClassFile where
  minorVersion := 0
  majorVersion := 65
  constantPool := pool
  accessFlags := fl
  thisClass := this
  superClass := sup
  interfaces := ifs
  fields := fds
  methods := ms
  attributes := attrs
def plain (name : String) (sup : Option ClassId) : Class where
  name := name
  kind := .ordinary
  loader := none
  accessFlags := 33
  super := sup
  interfaces := #[]
  cf := none
  fields := #[]
  methods := #[]
  instanceTypes := #[]
  staticTypes := #[]
  resolved := #[]
  callSites := []
  init := .initialized
  statics := none
  mirror := none

def pool0 : Array CpInfo := pool [(5, u "<init>"), (0, u "()V"), (1, .class_ 10), (1, u "java/lang/Object")] 113

def k0m0 : Method := { name := "<init>", desc := "()V", sig := { parameters := [], returnType := none }, accessFlags := 1, code := none }
/-- java/lang/Object -/
def k0 : Class := { plain "java/lang/Object" none with
  accessFlags := 33
  interfaces := #[]
  cf := some (fileOf pool0 8 #[] #[{ accessFlags := 1, nameIndex := 5, descriptorIndex := 6, attributes := #[] }] 33 0 #[] #[])
  fields := #[]
  methods := #[k0m0]
  instanceTypes := #[]
  staticTypes := #[]
  resolved := Array.replicate 124 none
  statics := none }

def pool1 : Array CpInfo := pool [(2, .class_ 4), (1, u "java/lang/Object"), (0, u "<init>"), (0, u "()V"), (0, .methodref 8 9), (0, .class_ 10), (0, .nameAndType 11 12), (0, u "java/lang/Math"), (0, u "abs"), (0, u "(J)J"), (0, .integer 1073741823), (0, .methodref 15 16), (0, .class_ 17), (0, .nameAndType 18 19), (0, u "com/example/passagewise/passagewise/search/Bm25Formula"), (0, u "part"), (0, u "(DDD)D"), (0, .double 4602678819172646912), (1, .double 4613937818241073152), (1, .double 4598175219545276416), (1, .class_ 27), (0, u "com/example/passagewise/passagewise/search/Bm25FormulaPartPinLaw"), (2, u "law"), (0, u "(IIII)Z")] 3

def k1m0 : Method := { name := "<init>", desc := "()V", sig := { parameters := [], returnType := none }, accessFlags := 2, code := none }
def k1c1 : Code := { maxStack := 8, maxLocals := 19, code := code, exceptionTable := #[], attributes := #[] }
def k1m1 : Method := { name := "law", desc := "(IIII)Z", sig := { parameters := [.int, .int, .int, .int], returnType := some .boolean }, accessFlags := 9, code := some k1c1 }
/-- com/example/passagewise/passagewise/search/Bm25FormulaPartPinLaw -/
def k1 : Class := { plain "com/example/passagewise/passagewise/search/Bm25FormulaPartPinLaw" (some 0) with
  accessFlags := 49
  interfaces := #[]
  cf := some (fileOf pool1 26 #[] #[{ accessFlags := 2, nameIndex := 5, descriptorIndex := 6, attributes := #[] }, { accessFlags := 9, nameIndex := 30, descriptorIndex := 31, attributes := #[] }] 49 2 #[] #[])
  fields := #[]
  methods := #[k1m0, k1m1]
  instanceTypes := #[]
  staticTypes := #[]
  resolved := Array.replicate 35 none
  statics := none }

def pool2 : Array CpInfo := pool [(1, .class_ 2), (0, u "java/lang/Math"), (1, .class_ 6), (1, u "java/lang/Object"), (0, u "<init>"), (0, u "()V"), (89, .class_ 100), (1, u "java/lang/Math$RandomNumberGeneratorHolder"), (23, u "abs"), (0, u "(J)J"), (46, u "negativeZeroFloatBits"), (0, u "J"), (2, u "negativeZeroDoubleBits"), (68, u "$assertionsDisabled"), (0, u "Z"), (91, u "twoToTheDoubleScaleDown"), (0, u "D"), (4, u "twoToTheDoubleScaleUp"), (9, u "E"), (3, u "PI"), (2, u "TAU"), (2, u "DEGREES_TO_RADIANS"), (0, u "RADIANS_TO_DEGREES")] 94

def k2m0 : Method := { name := "<init>", desc := "()V", sig := { parameters := [], returnType := none }, accessFlags := 2, code := none }
def k2c1 : Code := { maxStack := 4, maxLocals := 2, code := jdk_29_method_61_code, exceptionTable := #[], attributes := #[] }
def k2m1 : Method := { name := "abs", desc := "(J)J", sig := { parameters := [.long], returnType := some .long }, accessFlags := 9, code := some k2c1 }
/-- java/lang/Math -/
def k2 : Class := { plain "java/lang/Math" (some 0) with
  accessFlags := 49
  interfaces := #[]
  cf := some (fileOf pool2 1 #[.nestMembers #[98]] #[{ accessFlags := 2, nameIndex := 7, descriptorIndex := 8, attributes := #[] }, { accessFlags := 9, nameIndex := 124, descriptorIndex := 125, attributes := #[] }] 49 4 #[] #[{ accessFlags := 25, nameIndex := 354, descriptorIndex := 339, attributes := #[] }, { accessFlags := 25, nameIndex := 358, descriptorIndex := 339, attributes := #[] }, { accessFlags := 25, nameIndex := 361, descriptorIndex := 339, attributes := #[] }, { accessFlags := 26, nameIndex := 364, descriptorIndex := 339, attributes := #[] }, { accessFlags := 26, nameIndex := 365, descriptorIndex := 339, attributes := #[] }, { accessFlags := 26, nameIndex := 172, descriptorIndex := 173, attributes := #[] }, { accessFlags := 26, nameIndex := 176, descriptorIndex := 173, attributes := #[] }, { accessFlags := 8, nameIndex := 344, descriptorIndex := 339, attributes := #[] }, { accessFlags := 8, nameIndex := 338, descriptorIndex := 339, attributes := #[] }, { accessFlags := 4120, nameIndex := 245, descriptorIndex := 246, attributes := #[] }])
  fields := #[{ name := "E", type := .double, accessFlags := 25, slot := 0, constantValue := 0 }, { name := "PI", type := .double, accessFlags := 25, slot := 1, constantValue := 0 }, { name := "TAU", type := .double, accessFlags := 25, slot := 2, constantValue := 0 }, { name := "DEGREES_TO_RADIANS", type := .double, accessFlags := 26, slot := 3, constantValue := 0 }, { name := "RADIANS_TO_DEGREES", type := .double, accessFlags := 26, slot := 4, constantValue := 0 }, { name := "negativeZeroFloatBits", type := .long, accessFlags := 26, slot := 5, constantValue := 0 }, { name := "negativeZeroDoubleBits", type := .long, accessFlags := 26, slot := 6, constantValue := 0 }, { name := "twoToTheDoubleScaleUp", type := .double, accessFlags := 8, slot := 7, constantValue := 0 }, { name := "twoToTheDoubleScaleDown", type := .double, accessFlags := 8, slot := 8, constantValue := 0 }, { name := "$assertionsDisabled", type := .boolean, accessFlags := 4120, slot := 9, constantValue := 0 }]
  methods := #[k2m0, k2m1]
  instanceTypes := #[]
  staticTypes := #[.double, .double, .double, .double, .double, .long, .long, .double, .double, .boolean]
  resolved := Array.replicate 460 none
  statics := none }

def pool3 : Array CpInfo := pool [(2, .class_ 4), (1, u "java/lang/Object"), (6, u "k1"), (2, .class_ 16), (1, u "com/example/passagewise/passagewise/search/Bm25Formula"), (0, u "D"), (2, u "documents"), (0, .class_ 22), (0, u "com/example/passagewise/passagewise/search/Bm25Formula$LengthNorm"), (8, u "lengthNorm"), (0, u "Lcom/example/passagewise/passagewise/search/Bm25Formula$LengthNorm;"), (26, u "part"), (0, u "(DDD)D")] 19

def k3c0 : Code := { maxStack := 8, maxLocals := 6, code := prog_47_method_6_code, exceptionTable := #[], attributes := #[] }
def k3m0 : Method := { name := "part", desc := "(DDD)D", sig := { parameters := [.double, .double, .double], returnType := some .double }, accessFlags := 8, code := some k3c0 }
/-- com/example/passagewise/passagewise/search/Bm25Formula -/
def k3 : Class := { plain "com/example/passagewise/passagewise/search/Bm25Formula" (some 0) with
  accessFlags := 48
  interfaces := #[]
  cf := some (fileOf pool3 14 #[.nestMembers #[21]] #[{ accessFlags := 8, nameIndex := 59, descriptorIndex := 60, attributes := #[] }] 48 2 #[] #[{ accessFlags := 18, nameIndex := 11, descriptorIndex := 17, attributes := #[] }, { accessFlags := 18, nameIndex := 20, descriptorIndex := 17, attributes := #[] }, { accessFlags := 18, nameIndex := 31, descriptorIndex := 32, attributes := #[] }])
  fields := #[{ name := "k1", type := .double, accessFlags := 18, slot := 0, constantValue := 0 }, { name := "documents", type := .double, accessFlags := 18, slot := 1, constantValue := 0 }, { name := "lengthNorm", type := (.object "com/example/passagewise/passagewise/search/Bm25Formula$LengthNorm"), accessFlags := 18, slot := 2, constantValue := 0 }]
  methods := #[k3m0]
  instanceTypes := #[.double, .double, (.object "com/example/passagewise/passagewise/search/Bm25Formula$LengthNorm")]
  staticTypes := #[]
  resolved := Array.replicate 80 none
  statics := none }

def pool4 : Array CpInfo := pool [(1, u "java/lang/Cloneable"), (0, .class_ 1), (0, u "java/lang/Object"), (0, .class_ 3)] 3

/-- java/lang/Cloneable -/
def k4 : Class := { plain "java/lang/Cloneable" (some 0) with
  accessFlags := 1537
  interfaces := #[]
  cf := some (fileOf pool4 2 #[] #[] 1537 4 #[] #[])
  fields := #[]
  methods := #[]
  instanceTypes := #[]
  staticTypes := #[]
  resolved := Array.replicate 8 none
  statics := none }

def pool5 : Array CpInfo := pool [(1, u "java/io/Serializable"), (0, .class_ 1), (0, u "java/lang/Object"), (0, .class_ 3)] 3

/-- java/io/Serializable -/
def k5 : Class := { plain "java/io/Serializable" (some 0) with
  accessFlags := 1537
  interfaces := #[]
  cf := some (fileOf pool5 2 #[] #[] 1537 4 #[] #[])
  fields := #[]
  methods := #[]
  instanceTypes := #[]
  staticTypes := #[]
  resolved := Array.replicate 8 none
  statics := none }

/-- the primitive byte -/
def k6 : Class := { plain "byte" none with kind := .primitive 'B', accessFlags := 0x411 }
/-- [B -/
def k7 : Class := { plain "[B" (some 0) with kind := .array 6 .byte, interfaces := #[4, 5], accessFlags := 1041 }

/-- the primitive int -/
def k8 : Class := { plain "int" none with kind := .primitive 'I', accessFlags := 0x411 }
/-- [I -/
def k9 : Class := { plain "[I" (some 0) with kind := .array 8 .int, interfaces := #[4, 5], accessFlags := 1041 }

def heap : Heap := #[]
def classes : Array Class := #[k0, k1, k2, k3, k4, k5, k6, k7, k8, k9]
def interned : List (Array UInt16 × Addr) := []
def slotsUsed : Nat := 0
def theMethod : MethodId := ⟨1, 1⟩
def args0 : Array Value := #[.int 5, .int 9, .int 7, .int 4]
def aboutOver (below : List Frame) : State where
  vm := { classes := classes, interned := interned.toArray }
  heap := heap
  slotsUsed := slotsUsed
  threads := #[{ frames := .invoking theMethod args0 :: below }]
def below0 : List Frame := [.native { method := ⟨0, 0⟩, args := #[] }]
def about1 : State := aboutOver below0
def p0 : Program := .bare "" "" ""
def e0 : Env := launch0.env 0 0 0
theorem w_frames : about1.frames = Frame.invoking theMethod args0 :: below0 := rfl
set_option maxRecDepth 65536 in
theorem w_args : argsFit about1.vm theMethod args0 = true := by decide +kernel
set_option maxRecDepth 65536 in
theorem w_heap : heapFits about1 = true := by decide +kernel
set_option maxRecDepth 65536 in
theorem w_runnable : about1.curStatus? = some .runnable := by decide +kernel
set_option maxRecDepth 65536 in
theorem w_alone : about1.alone = true := by decide +kernel
set_option maxRecDepth 65536 in
theorem w_named : about1.methodNamed? x = some theMethod := by decide +kernel
set_option maxRecDepth 65536 in
theorem w_hears : about1.hears theMethod below0 = true := by decide +kernel
set_option maxRecDepth 65536 in
theorem w_ripe : about1.ripe theMethod args0 below0 = true := by decide +kernel
theorem w_running : about1.status = .running := rfl
set_option maxRecDepth 65536 in
theorem w_room : about1.hasRoom e0.platform room_1 = true :=
  launch0.hasRoom_least _ room_1 (by decide +kernel) (by decide +kernel) (by decide +kernel) (by decide +kernel) (by decide +kernel) (by decide +kernel)
theorem allAtoms_all (ts : List Jvm.Cond) (a : Array Jvm.Value) (st : Jvm.State) : (allAtoms ts).before a st = ts.all (fun c => c.before a st) := by
  induction ts with
  | nil => rfl
  | cons c t ih =>
    show (Jvm.Cond.and c (allAtoms t)).before a st = _
    rw [Jvm.Cond.before_and, ih, List.all_cons]
def words1 : List Jvm.Cond := Jvm.Cond.code x code maxLocals ret :: tables_1
/-- a 'code' word, met by the world's own term for the bytes: nothing is compared byte by byte -/
theorem code_word {y : MethodName} {bytes : ByteArray} {mx : Nat} {rt : Option FieldType} {a : Array Value} {s : State} {m : MethodId} {meth : Method} {c : Code} (h1 : s.methodNamed? y = some m) (h2 : s.vm.method? m = some meth) (h3 : meth.code = some c) (h4 : c.code = bytes)
    (h5 : (c.maxLocals == mx && c.exceptionTable.isEmpty && decide (c.maxStack ≤ mostOperands) && decide (meth.sig.returnType = rt) && !meth.locks && decide (parseMethodDescriptor y.desc = some meth.sig)) = true) : (Jvm.Cond.code y bytes mx rt).before a s = true := by
  simp only [Bool.and_eq_true, beq_iff_eq, Bool.not_eq_true', decide_eq_true_eq] at h5
  obtain ⟨⟨⟨⟨⟨g1, g2⟩, g3⟩, g4⟩, g5⟩, g6⟩ := h5
  simp [Cond.before, Cond.holds, Cond.value, h1, h2, h3, h4, g1, g2, g3, g4, g5, g6]
def isCode : Jvm.Cond → Bool
  | .code _ _ _ _ => true
  | _ => false
theorem all_split {L : List Jvm.Cond} {P : Jvm.Cond → Bool} (h1 : L.all (fun c => isCode c || P c) = true) (h2 : ∀ c ∈ L.filter isCode, P c = true) : L.all P = true := by
  refine List.all_eq_true.mpr fun c hc => ?_
  have h := List.all_eq_true.mp h1 c hc
  rcases Bool.eq_false_or_eq_true (isCode c) with hi | hi
  · exact h2 c (List.mem_filter.mpr ⟨hc, hi⟩)
  · simpa [hi] using h
set_option maxRecDepth 65536 in
theorem w_c0 : (Jvm.Cond.code x code maxLocals ret).before args0 about1 = true := code_word (m := ⟨1, 1⟩) (meth := k1m1) (c := k1c1) (by decide +kernel) rfl rfl rfl (by decide +kernel)
set_option maxRecDepth 65536 in
theorem w_c1 : (Jvm.Cond.code ({ cls := "java/lang/Math", name := "abs", desc := "(J)J" } : Jvm.MethodName) jdk_29_method_61_code (2 : Nat) (Option.some Jvm.ClassFile.FieldType.long)).before args0 about1 = true := code_word (m := ⟨2, 1⟩) (meth := k2m1) (c := k2c1) (by decide +kernel) rfl rfl rfl (by decide +kernel)
set_option maxRecDepth 65536 in
theorem w_c2 : (Jvm.Cond.code ({ cls := "com/example/passagewise/passagewise/search/Bm25Formula", name := "part", desc := "(DDD)D" } : Jvm.MethodName) prog_47_method_6_code (6 : Nat) (Option.some Jvm.ClassFile.FieldType.double)).before args0 about1 = true := code_word (m := ⟨3, 0⟩) (meth := k3m0) (c := k3c0) (by decide +kernel) rfl rfl rfl (by decide +kernel)
def codes1 : List Jvm.Cond := [Jvm.Cond.code x code maxLocals ret, Jvm.Cond.code ({ cls := "java/lang/Math", name := "abs", desc := "(J)J" } : Jvm.MethodName) jdk_29_method_61_code (2 : Nat) (Option.some Jvm.ClassFile.FieldType.long), Jvm.Cond.code ({ cls := "com/example/passagewise/passagewise/search/Bm25Formula", name := "part", desc := "(DDD)D" } : Jvm.MethodName) prog_47_method_6_code (6 : Nat) (Option.some Jvm.ClassFile.FieldType.double)]
set_option maxRecDepth 65536 in
theorem codes_eq : words1.filter isCode = codes1 := rfl
theorem w_codes : ∀ c ∈ words1.filter isCode, c.before args0 about1 = true := by
  rw [codes_eq]
  intro c hc
  simp only [codes1, List.mem_cons, List.not_mem_nil, or_false] at hc
  rcases hc with rfl | rfl | rfl
  · exact w_c0
  · exact w_c1
  · exact w_c2
set_option maxRecDepth 65536 in
theorem w_t1 : words1.all (fun c => isCode c || c.before args0 about1) = true := by decide +kernel
theorem w_tables : (allAtoms (Jvm.Cond.code x code maxLocals ret :: tables_1)).before args0 about1 = true := by
  rw [allAtoms_all]
  show words1.all (fun c => c.before args0 about1) = true
  refine all_split ?_ w_codes
  rw [w_t1]
set_option maxRecDepth 65536 in
theorem w_case : (Jvm.Cond.and given_1 narrow_1).before args0 about1 = true := by decide +kernel
theorem w_applies : (headSpec (Jvm.Cond.code x code maxLocals ret :: tables_1) room_1).applies x e0.platform about1 = true :=
  (Spec.applies_iff w_frames).mpr ⟨w_running, w_runnable, w_alone, w_named, w_hears, w_ripe, w_room, w_tables⟩
theorem atStart : AtStart classFile x code maxLocals ret World_1 tables_1 room_1 Calls_1 rest_1 Pre_1 launch0 p0 e0 about1 theMethod args0 below0 :=
  ⟨lists_1, trivial, launch0.admits_env _ _ _, launch0.least_env, fairChoices_fair.cas, fairChoices_fair.clock, w_frames, w_args, w_heap, w_applies, trivial, trivial, w_case⟩
end start1
theorem witness_1 : WitnessClaimed_1 := ⟨start1.p0, start1.e0, start1.about1, start1.theMethod, start1.args0, start1.below0, start1.atStart⟩
end Jvm.Pilot.@@N@@
