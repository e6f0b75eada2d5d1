import JvmDerived
import JvmDerived.Pilot.@@N@@Statement
import JvmDerived.Pilot.@@N@@Code
set_option linter.unusedVariables false
set_option linter.unusedSimpArgs false
namespace Jvm.RoadKit
open Sem ClassFile Op Lib Jvm.Stand Jvm.Free Jvm.LawKit
section Own
/-- from here the run comes to an end of which P holds -/
def own_Go (p : Program) (e : Env) (below : List Frame) (P : Outcome → State → Prop) (t : State) : Prop :=
  ∃ s₂ o, Steps p.tables e below t s₂ ∧ s₂.status = .running ∧ Ended s₂ below o ∧ P o s₂
variable {p : Program} {l : Launch} {e : Env} {R : Room} {s : State} {m : MethodId} {args : Array Value} {below : List Frame} {meth : Method} {c : Code} {T : State} {locs : List Loc} {cells slots : Nat}
theorem own_Go.st {P : Outcome → State → Prop} {t t' : State} (h : ∀ target, Steps p.tables e below t' target → Steps p.tables e below t target) (k : own_Go p e below P t') : own_Go p e below P t := by
  obtain ⟨a, b, h1, h2⟩ := k
  exact ⟨a, b, h _ h1, h2⟩
variable {C N : Nat} {Q : Option Value → Heap → List Loc → Prop}
theorem own_ret {v : Option Value} {g : JFrame} (X : Stand p l e R s m args below meth c T locs cells slots) (hlk : meth.locks = false) (hv : meth.sig.returnType = none → v = none)
    (hl : ∀ fs : List Frame, (∀ (f : JFrame) (acts : List Action), f.method = m → f.locked = none → f.entered = [] → (doReturn e (T.setTop f) acts v).1 = T.setFrames fs) → Steps p.tables e below (T.setTop g) (T.setFrames fs))
    (hc : cells ≤ C) (hn : slots ≤ N) (q : Q v T.heap locs) : own_Go p e below (fun o U' => ∃ v L, o = .returned v ∧ Q v U'.heap L ∧ FrameEnd s o U' L C N) (T.setTop g) := by
  obtain ⟨fs, hr, hrun, hended, hW, hsame⟩ := X.leave (v := v) hv hlk
  exact ⟨_, _, hl fs hr, hrun, hended, _, _, rfl, q, ⟨_, rfl⟩, hW, hsame.mono hc hn⟩
theorem own_retI {pc : Nat} {Ls : Array Slot} {z : Int32} {rest : List Value} (X : Stand p l e R s m args below meth c T locs cells slots) (hx : p.tables.exec = Jvm.exec) (hlk : meth.locks = false) (hret : meth.sig.returnType = some .int) (hd : decode c.code pc = .ok (.ireturn, 1))
    (hc : cells ≤ C) (hn : slots ≤ N) (q : Q (some (.int z)) T.heap locs) : own_Go p e below (fun o U' => ∃ v L, o = .returned v ∧ Q v U'.heap L ∧ FrameEnd s o U' L C N) (T.setTop (mkF m pc Ls (.int z :: rest))) :=
  own_ret X hlk (fun h => by rw [hret] at h; cases h) (fun fs hr => retOut X hx hret rfl (Or.inl ⟨rfl, Or.inl rfl, z, rfl⟩) hd hr) hc hn q
theorem own_retN {t : FieldType} {pc : Nat} {Ls : Array Slot} {z : Int32} {rest : List Value} (X : Stand p l e R s m args below meth c T locs cells slots) (hx : p.tables.exec = Jvm.exec) (hlk : meth.locks = false) (hret : meth.sig.returnType = some t) (ht : t = .boolean ∨ t = .byte ∨ t = .char ∨ t = .short) (hz : nar t z = z) (hd : decode c.code pc = .ok (.ireturn, 1))
    (hc : cells ≤ C) (hn : slots ≤ N) (q : Q (some (.int z)) T.heap locs) : own_Go p e below (fun o U' => ∃ v L, o = .returned v ∧ Q v U'.heap L ∧ FrameEnd s o U' L C N) (T.setTop (mkF m pc Ls (.int z :: rest))) :=
  own_ret X hlk (fun h => by rw [hret] at h; cases h) (fun fs hr => retN X hx (z := z) hret ht hd (by rw [hz]; exact hr)) hc hn q
theorem own_retZ {pc : Nat} {Ls : Array Slot} {z : Int32} {rest : List Value} (X : Stand p l e R s m args below meth c T locs cells slots) (hx : p.tables.exec = Jvm.exec) (hlk : meth.locks = false) (hret : meth.sig.returnType = some .boolean) (hz : z = 0 ∨ z = 1) (hd : decode c.code pc = .ok (.ireturn, 1))
    (hc : cells ≤ C) (hn : slots ≤ N) (q : Q (some (.int z)) T.heap locs) : own_Go p e below (fun o U' => ∃ v L, o = .returned v ∧ Q v U'.heap L ∧ FrameEnd s o U' L C N) (T.setTop (mkF m pc Ls (.int z :: rest))) :=
  own_retN X hx hlk hret (Or.inl rfl) (by rcases hz with rfl | rfl <;> rfl) hd hc hn q
theorem own_retJ {pc : Nat} {Ls : Array Slot} {z : Int64} {rest : List Value} (X : Stand p l e R s m args below meth c T locs cells slots) (hx : p.tables.exec = Jvm.exec) (hlk : meth.locks = false) (hret : meth.sig.returnType = some .long) (hd : decode c.code pc = .ok (.lreturn, 1))
    (hc : cells ≤ C) (hn : slots ≤ N) (q : Q (some (.long z)) T.heap locs) : own_Go p e below (fun o U' => ∃ v L, o = .returned v ∧ Q v U'.heap L ∧ FrameEnd s o U' L C N) (T.setTop (mkF m pc Ls (.long z :: rest))) :=
  own_ret X hlk (fun h => by rw [hret] at h; cases h) (fun fs hr => retOut X hx hret rfl (Or.inr (Or.inl ⟨rfl, rfl, z, rfl⟩)) hd hr) hc hn q
theorem own_retD {pc : Nat} {Ls : Array Slot} {z : UInt64} {rest : List Value} (X : Stand p l e R s m args below meth c T locs cells slots) (hx : p.tables.exec = Jvm.exec) (hlk : meth.locks = false) (hret : meth.sig.returnType = some .double) (hd : decode c.code pc = .ok (.dreturn, 1))
    (hc : cells ≤ C) (hn : slots ≤ N) (q : Q (some (.double z)) T.heap locs) : own_Go p e below (fun o U' => ∃ v L, o = .returned v ∧ Q v U'.heap L ∧ FrameEnd s o U' L C N) (T.setTop (mkF m pc Ls (.double z :: rest))) :=
  own_ret X hlk (fun h => by rw [hret] at h; cases h) (fun fs hr => retOut X hx hret rfl (Or.inr (Or.inr (Or.inl ⟨rfl, rfl, z, rfl⟩))) hd hr) hc hn q
theorem own_retA {t : FieldType} {pc : Nat} {Ls : Array Slot} {w : Value} {rest : List Value} (X : Stand p l e R s m args below meth c T locs cells slots) (hx : p.tables.exec = Jvm.exec) (hlk : meth.locks = false) (hret : meth.sig.returnType = some t) (ht : t.isReference = true) (hw : w.isRef = true) (hd : decode c.code pc = .ok (.areturn, 1))
    (hc : cells ≤ C) (hn : slots ≤ N) (q : Q (some w) T.heap locs) : own_Go p e below (fun o U' => ∃ v L, o = .returned v ∧ Q v U'.heap L ∧ FrameEnd s o U' L C N) (T.setTop (mkF m pc Ls (w :: rest))) :=
  own_ret X hlk (fun h => by rw [hret] at h; cases h) (fun fs hr => retOut X hx hret (by rcases ref_cases hw with rfl | ⟨z, rfl⟩ <;> cases t <;> rfl) (Or.inr (Or.inr (Or.inr (Or.inr ⟨rfl, ht, hw⟩)))) hd hr) hc hn q
theorem own_retV {pc : Nat} {Ls : Array Slot} (X : Stand p l e R s m args below meth c T locs cells slots) (hx : p.tables.exec = Jvm.exec) (hlk : meth.locks = false) (hret : meth.sig.returnType = none) (hd : decode c.code pc = .ok (.return_, 1))
    (hc : cells ≤ C) (hn : slots ≤ N) (q : Q none T.heap locs) : own_Go p e below (fun o U' => ∃ v L, o = .returned v ∧ Q v U'.heap L ∧ FrameEnd s o U' L C N) (T.setTop (mkF m pc Ls [])) :=
  own_ret X hlk (fun _ => rfl) (fun fs hr => X.returnOut hx hret hd hr) hc hn q
theorem own_retW {vm0 : Vm} {k0 : Nat} {v : Option Value} {g : JFrame} (X : Stand p l e R (s.setVm vm0) m args below meth c T locs cells slots) (hlk : meth.locks = false) (hv : meth.sig.returnType = none → v = none) (hS : s.Since vm0 k0) (hk : k0 ≤ T.heap.size)
    (hl : ∀ fs : List Frame, (∀ (f : JFrame) (acts : List Action), f.method = m → f.locked = none → f.entered = [] → (doReturn e (T.setTop f) acts v).1 = T.setFrames fs) → Steps p.tables e below (T.setTop g) (T.setFrames fs))
    (hc : cells ≤ C) (hn : slots ≤ N) (q : Q v T.heap locs) : own_Go p e below (fun o U' => ∃ v L, o = .returned v ∧ Q v U'.heap L ∧ ReturnedEndW s o U' L C N) (T.setTop g) := by
  obtain ⟨fs, hr, hrun, hended, h1, h2, h3, h4⟩ := X.leaveW hS hk (v := v) hv hlk
  exact ⟨_, _, hl fs hr, hrun, hended, _, _, rfl, q, h1, h2, h3, h4.mono hc hn⟩
theorem own_retWV {vm0 : Vm} {k0 : Nat} {pc : Nat} {Ls : Array Slot} (X : Stand p l e R (s.setVm vm0) m args below meth c T locs cells slots) (hx : p.tables.exec = Jvm.exec) (hlk : meth.locks = false) (hret : meth.sig.returnType = none) (hS : s.Since vm0 k0) (hk : k0 ≤ T.heap.size) (hd : decode c.code pc = .ok (.return_, 1))
    (hc : cells ≤ C) (hn : slots ≤ N) (q : Q none T.heap locs) : own_Go p e below (fun o U' => ∃ v L, o = .returned v ∧ Q v U'.heap L ∧ ReturnedEndW s o U' L C N) (T.setTop (mkF m pc Ls [])) :=
  own_retW X hlk (fun _ => rfl) hS hk (fun fs hr => X.returnOut hx hret hd hr) hc hn q
theorem own_retWZ {vm0 : Vm} {k0 : Nat} {pc : Nat} {Ls : Array Slot} {z : Int32} {rest : List Value} (X : Stand p l e R (s.setVm vm0) m args below meth c T locs cells slots) (hx : p.tables.exec = Jvm.exec) (hlk : meth.locks = false) (hret : meth.sig.returnType = some .boolean) (hS : s.Since vm0 k0) (hk : k0 ≤ T.heap.size) (hz : z = 0 ∨ z = 1) (hd : decode c.code pc = .ok (.ireturn, 1))
    (hc : cells ≤ C) (hn : slots ≤ N) (q : Q (some (.int z)) T.heap locs) : own_Go p e below (fun o U' => ∃ v L, o = .returned v ∧ Q v U'.heap L ∧ ReturnedEndW s o U' L C N) (T.setTop (mkF m pc Ls (.int z :: rest))) :=
  own_retW X hlk (fun h => by rw [hret] at h; cases h) hS hk (fun fs hr => retN X hx (z := z) (t := .boolean) hret (Or.inl rfl) hd (by rw [show nar .boolean z = z by rcases hz with rfl | rfl <;> rfl]; exact hr)) hc hn q
/-- an array: its length, and what each place holds -/
def own_Ar (Z : State) (h : Heap) (a : Addr) (ty : FieldType) (n : Nat) (f : Nat → Value) : Prop := ∃ c : Cell, Arr Z h a c ty ∧ c.slots.size = n ∧ ∀ j, j < n → c.slots[j]? = some (f j)
section OwnAr
variable {Z : State} {h h' : Heap} {a b : Addr} {ty : FieldType} {n : Nat} {f f' : Nat → Value} {ws : List Addr}
theorem own_Ar.lt (F : own_Ar Z h a ty n f) : a < h.size := by obtain ⟨c, A, -⟩ := F; exact A.lt
theorem own_Ar.ext (F : own_Ar Z h a ty n f) (E : Ext h h') : own_Ar Z h' a ty n f := by obtain ⟨c, A, r⟩ := F; exact ⟨c, A.ext E, r⟩
theorem own_Ar.other {sl : Nat} {v : Value} (F : own_Ar Z h b ty n f) (W : Wr h h' a sl v) (q : b ≠ a) : own_Ar Z h' b ty n f := by obtain ⟨c, A, r⟩ := F; exact ⟨c, A.other W q, r⟩
theorem own_Ar.keep (F : own_Ar Z h a ty n f) (K : Keep h h' ws) (q : a ∉ ws) : own_Ar Z h' a ty n f := by obtain ⟨c, A, r⟩ := F; exact ⟨c, ⟨K.2.1 a c A.1 q, A.2⟩, r⟩
theorem own_Ar.congr (F : own_Ar Z h a ty n f) (q : ∀ j, j < n → f j = f' j) : own_Ar Z h a ty n f' := by obtain ⟨c, A, S, r⟩ := F; exact ⟨c, A, S, fun j hj => by rw [← q j hj]; exact r j hj⟩
theorem own_Ar.new {cA : ClassId} {z : Int32} (A : Arr Z h a (newA cA ty z) ty) (hz : z.toInt = (n : Int)) : own_Ar Z h a ty n (fun _ => defaultValue ty) := by
  have e : z.toNatClampNeg = n := by show z.toInt.toNat = n; omega
  exact ⟨_, A, by rw [sz_new, e], fun j hj => by simp [newA, e, hj]⟩
theorem own_Ar.set {i : Nat} {v : Value} (F : own_Ar Z h a ty n f) (W : Wr h h' a i v) : own_Ar Z h' a ty n (fun j => if j = i then v else f j) := by
  obtain ⟨c, A, S, r⟩ := F
  refine ⟨c.setSlot i v, A.same W, by rw [sz_set, S], fun j hj => ?_⟩
  show (c.slots.setIfInBounds i v)[j]? = _
  by_cases q : j = i
  · subst q; simp [S, hj]
  · rw [Array.getElem?_setIfInBounds_ne (Ne.symm q), r j hj]; simp [q]
theorem own_inb {c : Cell} {j : Int32} {i : Nat} (S : c.slots.size = n) (hj : j.toInt = (i : Int)) (hi : i < n) : ¬ (j < 0 ∨ c.slots.size ≤ j.toNatClampNeg) := by
  have e : j.toNatClampNeg = i := by show j.toInt.toNat = i; omega
  rw [e, S, Int32.lt_iff_toInt_lt, hj, show (0 : Int32).toInt = 0 by decide]
  omega
theorem own_clamp {j : Int32} {i : Nat} (hj : j.toInt = (i : Int)) : j.toNatClampNeg = i := by show j.toInt.toNat = i; omega
theorem own_alen (X : Stand p l e R s m args below meth c T locs cells slots) (hx : p.tables.exec = Jvm.exec) (hZ : Z.Warmed39 s.vm) (eT : T.heap = h) (F : own_Ar Z h a ty n f) {z : Int32} (hz : z.toInt = (n : Int))
    {g : JFrame} (hg : g.method = m) {rest : List Value} (hs : g.stack = .ref a :: rest) (hd : decode c.code g.pc = .ok (.arraylength, 1)) (target : State)
    (hr : Steps p.tables e below (T.setTop { g with pc := g.pc + 1, stack := .int z :: rest }) target) : Steps p.tables e below (T.setTop g) target := by
  obtain ⟨cl, A, S, -⟩ := F
  refine X.arraylength hx (by rw [eT]; exact A.1) (State.isArrayOf_alike hZ.alike A.2.1) hg hs hd target ?_
  have q : cl.slots.size.toInt32 = z := by
    rw [← Int32.toInt_inj, S, hz]
    have := z.toInt_lt
    exact len_toInt (by omega)
  rw [q]; exact hr
theorem own_dld (X : Stand p l e R s m args below meth c T locs cells slots) (hx : p.tables.exec = Jvm.exec) (hZ : Z.Warmed39 s.vm) (eT : T.heap = h) (F : own_Ar Z h a .double n f) {j : Int32} {i : Nat} (hj : j.toInt = (i : Int)) (hi : i < n) {v : Value} (hv : f i = v)
    {g : JFrame} (hg : g.method = m) {rest : List Value} (hs : g.stack = .int j :: .ref a :: rest) (hd : decode c.code g.pc = .ok (.daload, 1)) (target : State)
    (hr : Steps p.tables e below (T.setTop { g with pc := g.pc + 1, stack := v :: rest }) target) : Steps p.tables e below (T.setTop g) target := by
  obtain ⟨cl, A, S, H⟩ := F
  exact X.daload hx (by rw [eT]; exact A.1) (State.isArrayOf_alike hZ.alike A.2.1) A.2.2 (own_inb S hj hi) (by rw [own_clamp hj, H i hi, hv]) hg hs hd target hr
theorem own_lld (X : Stand p l e R s m args below meth c T locs cells slots) (hx : p.tables.exec = Jvm.exec) (hZ : Z.Warmed39 s.vm) (eT : T.heap = h) (F : own_Ar Z h a .long n f) {j : Int32} {i : Nat} (hj : j.toInt = (i : Int)) (hi : i < n) {v : Value} (hv : f i = v)
    {g : JFrame} (hg : g.method = m) {rest : List Value} (hs : g.stack = .int j :: .ref a :: rest) (hd : decode c.code g.pc = .ok (.laload, 1)) (target : State)
    (hr : Steps p.tables e below (T.setTop { g with pc := g.pc + 1, stack := v :: rest }) target) : Steps p.tables e below (T.setTop g) target := by
  obtain ⟨cl, A, S, H⟩ := F
  exact X.laload hx (by rw [eT]; exact A.1) (State.isArrayOf_alike hZ.alike A.2.1) A.2.2 (own_inb S hj hi) (by rw [own_clamp hj, H i hi, hv]) hg hs hd target hr
theorem own_dst (X : Stand p l e R s m args below meth c T locs cells slots) (hx : p.tables.exec = Jvm.exec) (hZ : Z.Warmed39 s.vm) (eT : T.heap = h) (F : own_Ar Z h a .double n f) {j : Int32} {i : Nat} (hj : j.toInt = (i : Int)) (hi : i < n) {x : UInt64}
    {g : JFrame} (hg : g.method = m) {rest : List Value} (hs : g.stack = .double x :: .int j :: .ref a :: rest) (hd : decode c.code g.pc = .ok (.dastore, 1)) :
    ∃ T' h', Stand p l e R s m args below meth c T' (locs ++ [⟨a, i⟩]) cells slots ∧ T'.heap = h' ∧ Wr h h' a i (.double x) ∧ ∀ target, Steps p.tables e below (T'.setTop { g with pc := g.pc + 1, stack := rest }) target → Steps p.tables e below (T.setTop g) target := by
  obtain ⟨cl, A, S, H⟩ := F
  have q := stD X hx hZ eT A (x := x) (own_inb S hj hi) hg hs hd
  rw [own_clamp hj] at q
  exact q
theorem own_lst (X : Stand p l e R s m args below meth c T locs cells slots) (hx : p.tables.exec = Jvm.exec) (hZ : Z.Warmed39 s.vm) (eT : T.heap = h) (F : own_Ar Z h a .long n f) {j : Int32} {i : Nat} (hj : j.toInt = (i : Int)) (hi : i < n) {x : Int64}
    {g : JFrame} (hg : g.method = m) {rest : List Value} (hs : g.stack = .long x :: .int j :: .ref a :: rest) (hd : decode c.code g.pc = .ok (.lastore, 1)) :
    ∃ T' h', Stand p l e R s m args below meth c T' (locs ++ [⟨a, i⟩]) cells slots ∧ T'.heap = h' ∧ Wr h h' a i (.long x) ∧ ∀ target, Steps p.tables e below (T'.setTop { g with pc := g.pc + 1, stack := rest }) target → Steps p.tables e below (T.setTop g) target := by
  obtain ⟨cl, A, S, H⟩ := F
  have q := stJ X hx hZ eT A (x := x) (own_inb S hj hi) hg hs hd
  rw [own_clamp hj] at q
  exact q
end OwnAr
theorem own_stakeep {Z : State} {h h' : Heap} {C n d : String} {v : Value} {ws : List Addr} (F : Sta Z h C n d v) (K : Keep h h' ws) (q : ∀ x ∈ ws, ∀ c : Cell, h[x]? = some c → c.vm.isStatics = false) : Sta Z h' C n d v := by
  obtain ⟨cf, i, k, f, st, cell, h1, h2, h3, h4, h5, h6, h7⟩ := F
  exact ⟨cf, i, k, f, st, cell, h1, h2, h3, h4, K.2.1 st cell h5 (fun hm => by rw [q st hm cell h5] at h6; cases h6), h6, h7⟩
end Own
end Jvm.RoadKit
namespace Jvm.FP.Core

section OwnDy
/-- x is finite, and worth z units of the least double -/
def own_D (x : UInt64) (z : Int) : Prop := DFin x ∧ zval b64 (val64 x) = z
theorem own_D.nn {x : UInt64} {z : Int} (h : own_D x z) : val64 x ≠ .nan := by
  obtain ⟨⟨s, c, q, e⟩, -⟩ := h
  rw [e]; exact Datum.noConfusion
theorem own_D.n64 {x : UInt64} {z : Int} (h : own_D x z) : Jvm.Free.Fl.NoNaN64 x := Jvm.Free.Fl.noNaN64_no.mpr ((notNaN_iff x).mpr h.nn)
/-- a whole number z of units that a finite double is worth -/
def own_Rep (z : Int) : Prop := ∃ V, fits b64 V ∧ (∃ s c q, V = Datum.fin s c q) ∧ zval b64 V = z
theorem own_rep (c : Int) (k : Nat) (hc : c.natAbs < 9007199254740992) (hk : k ≤ 2045) : own_Rep (c * ((2 ^ k : Nat) : Int)) := by
  obtain ⟨c', q', h1, h2⟩ := round_exact good_b64 (decide (c < 0)) (c := c.natAbs) (q := -1074 + (k : Int)) (show c.natAbs < 2 ^ 53 by omega) (by rw [qmin_b64]; omega) (show -1074 + (k : Int) ≤ b64.qmax by rw [show b64.qmax = 971 by decide]; omega)
  refine ⟨.fin (decide (c < 0)) c' q', h1 ▸ round_fits good_b64 _, ⟨_, _, _, rfl⟩, ?_⟩
  show signed (decide (c < 0)) (inUnits c' q' b64.qmin) = _
  rw [h2]
  unfold inUnits
  rw [qmin_b64, show (-1074 + (k : Int) - -1074).toNat = k by omega, signed_mul]
  congr 1
  unfold signed
  by_cases h : c < 0
  · simp [h]; omega
  · simp [h]; omega
theorem own_close {d V : Datum} (fd : fits b64 d) (nd : d ≠ .nan) (fV : fits b64 V) (hV : ∃ s c q, V = Datum.fin s c q) (e : zval b64 d = zval b64 V) : ∃ s c q, d = .fin s c q := by
  obtain ⟨s, c, q, rfl⟩ := hV
  have h1 := zmag_lt_top good_b64 fV
  cases d with
  | nan => exact absurd rfl nd
  | fin s' c' q' => exact ⟨_, _, _, rfl⟩
  | inf t =>
    exfalso
    have h2 : (zval b64 (.inf t)).natAbs = b64.tails * 2 ^ (b64.exps - 2) := natAbs_signed t _
    have h3 : (zval b64 (.fin s c q)).natAbs = inUnits c q b64.qmin := natAbs_signed s _
    rw [e, h3] at h2
    omega
theorem own_of {x : UInt64} {z : Int} (nx : val64 x ≠ .nan) (r : own_Rep z) (e : zval b64 (val64 x) = z) : own_D x z := by
  obtain ⟨V, fV, hV, eV⟩ := r
  exact ⟨own_close (val64_fits x) nx fV hV (by rw [e, eV]), e⟩
theorem own_dadd {x y : UInt64} {z w : Int} (hx : own_D x z) (hy : own_D y w) (r : own_Rep (z + w)) : own_D (FP.dadd x y) (z + w) := by
  have r' := r
  obtain ⟨V, fV, ⟨s, c, q, hV⟩, eV⟩ := r
  have nV : V ≠ .nan := by rw [hV]; exact Datum.noConfusion
  have e : zval b64 (val64 (Core.dadd x y)) = z + w := by
    rw [val64_dadd]
    have h1 := sum_le good_b64 hx.1 hy.1 (val64_fits x) (val64_fits y) fV nV (by rw [hx.2, hy.2, eV]; omega)
    have h2 := sum_ge good_b64 hx.1 hy.1 (val64_fits x) (val64_fits y) fV nV (by rw [hx.2, hy.2, eV]; omega)
    omega
  refine own_of ?_ r' e
  show val64 (Core.dadd x y) ≠ .nan
  rw [val64_dadd]
  obtain ⟨s1, c1, q1, e1⟩ := hx.1
  obtain ⟨s2, c2, q2, e2⟩ := hy.1
  rw [e1, e2]
  exact roundRatio_ne_nan _ _ _ _ _
theorem own_dneg {x : UInt64} {z : Int} (hx : own_D x z) : own_D (Core.dneg x) (-z) := by
  constructor
  · obtain ⟨s, c, q, e⟩ := hx.1
    exact ⟨!s, c, q, by rw [val64_dneg, e]; rfl⟩
  · rw [val64_dneg, zval_negate, hx.2]
theorem own_dsub {x y : UInt64} {z w : Int} (hx : own_D x z) (hy : own_D y w) (r : own_Rep (z - w)) : own_D (FP.dsub x y) (z - w) := by
  have h := own_dadd hx (own_dneg hy) (by rw [← Int.sub_eq_add_neg]; exact r)
  rw [← Int.sub_eq_add_neg] at h
  show own_D (Core.dsub x y) _
  rw [dsub_eq]; exact h
/-- a product: worth z * w over 2^1074 -/
theorem own_dmul {x y : UInt64} {z w u : Int} (hx : own_D x z) (hy : own_D y w) (r : own_Rep u) (hu : z * w = u * ((2 ^ 1074 : Nat) : Int)) : own_D (FP.dmul x y) u := by
  have r' := r
  obtain ⟨V, fV, ⟨s, c, q, hV⟩, eV⟩ := r
  have nV : V ≠ .nan := by rw [hV]; exact Datum.noConfusion
  obtain ⟨s1, c1, q1, e1⟩ := hx.1
  obtain ⟨s2, c2, q2, e2⟩ := hy.1
  have f1 := val64_fits x
  have f2 := val64_fits y
  have z1 := hx.2
  have z2 := hy.2
  rw [e1] at f1 z1
  rw [e2] at f2 z2
  obtain ⟨p1, p2, p3⟩ := product_units f1 f2
  have hs : signed (s1 != s2) (inUnits (c1 * c2) (q1 + q2) (2 * b64.qmin)) = z * w := by
    rw [p3, ← z1, ← z2]
    unfold zval
    show signed (s1 != s2) _ = signed s1 _ * signed s2 _
    cases s1 <;> cases s2 <;> simp [signed, Int.neg_mul, Int.mul_neg]
  have hP : ((2 ^ (b64.qmin - 2 * b64.qmin).toNat : Nat) : Int) = ((2 ^ 1074 : Nat) : Int) := by rw [qmin_b64]; rfl
  have e : zval b64 (val64 (Core.dmul x y)) = u := by
    rw [val64_dmul, e1, e2, p1]
    have h1 := zval_round_le good_b64 (s := (s1 != s2)) (c := c1 * c2) (q := q1 + q2) (e0 := 2 * b64.qmin) fV nV (by rw [qmin_b64]; omega) p2 (by rw [hs, hu, eV, hP]; exact Int.le_refl _)
    have h2 := zval_round_ge good_b64 (s := (s1 != s2)) (c := c1 * c2) (q := q1 + q2) (e0 := 2 * b64.qmin) fV nV (by rw [qmin_b64]; omega) p2 (by rw [hs, hu, eV, hP]; exact Int.le_refl _)
    omega
  refine own_of ?_ r' e
  show val64 (Core.dmul x y) ≠ .nan
  rw [val64_dmul, e1, e2, p1]
  exact roundRatio_ne_nan _ _ _ _ _
/-- a quotient by something positive: u * w = z * 2^1074 -/
theorem own_ddiv {x y : UInt64} {z w u : Int} (hx : own_D x z) (hy : own_D y w) (hw : 0 < w) (r : own_Rep u) (hu : u * w = z * ((2 ^ 1074 : Nat) : Int)) : own_D (FP.ddiv x y) u := by
  have r' := r
  obtain ⟨V, fV, ⟨s, c, q, hV⟩, eV⟩ := r
  have nV : V ≠ .nan := by rw [hV]; exact Datum.noConfusion
  obtain ⟨s1, c1, q1, e1⟩ := hx.1
  obtain ⟨s2, c2, q2, e2⟩ := hy.1
  have f1 := val64_fits x
  have f2 := val64_fits y
  have z1 := hx.2
  have z2 := hy.2
  rw [e1] at f1 z1
  rw [e2] at f2 z2
  have z1' : signed s1 (c1 * 2 ^ (q1 + 1074).toNat) = z := by
    rw [← z1]; show _ = signed s1 (inUnits c1 q1 b64.qmin); unfold inUnits; rw [qmin_b64]; rw [show q1 - -1074 = q1 + 1074 by omega]
  have z2' : signed s2 (c2 * 2 ^ (q2 + 1074).toNat) = w := by
    rw [← z2]; show _ = signed s2 (inUnits c2 q2 b64.qmin); unfold inUnits; rw [qmin_b64]; rw [show q2 - -1074 = q2 + 1074 by omega]
  have g1 : -1074 ≤ q1 := by have := f1.2.1; rw [qmin_b64] at this; exact this
  have g2 : -1074 ≤ q2 := by have := f2.2.1; rw [qmin_b64] at this; exact this
  have hs2 : s2 = false ∧ 0 < c2 := by
    cases s2
    · refine ⟨rfl, Nat.pos_of_ne_zero fun h => ?_⟩
      subst h; simp [signed] at z2'; omega
    · simp only [signed, if_true] at z2'; omega
  obtain ⟨rfl, hc2⟩ := hs2
  have hval : val64 (Core.ddiv x y) = roundRatio b64 (s1 != false) c1 c2 (q1 - q2) := by
    rw [val64_ddiv, e1, e2]
    show (if c2 = 0 then _ else _) = _
    rw [if_neg (by omega)]
  have hb : (s1 != false) = s1 := by cases s1 <;> rfl
  rw [hb] at hval
  -- magnitudes
  have hz : z.natAbs = c1 * 2 ^ (q1 + 1074).toNat := by rw [← z1']; exact natAbs_signed _ _
  have hw' : w = ((c2 * 2 ^ (q2 + 1074).toNat : Nat) : Int) := by rw [← z2']; rfl
  have hm : zmag b64 V * (c2 * 2 ^ (q2 + 1074).toNat) = c1 * 2 ^ (q1 + 1074).toNat * 2 ^ 1074 := by
    have h1 : (zval b64 V).natAbs = zmag b64 V := natAbs_signed _ _
    have h2 : (u * w).natAbs = (z * ((2 ^ 1074 : Nat) : Int)).natAbs := by rw [hu]
    rw [Int.natAbs_mul, Int.natAbs_mul, ← eV, h1, hz, Int.natAbs_natCast, hw', Int.natAbs_natCast] at h2
    exact h2
  -- a common low exponent
  have hq : inUnits c1 (q1 - q2) (-1074 - (q2 + 1074)) = c1 * 2 ^ (q1 + 1074).toNat * 2 ^ 1074 := by
    unfold inUnits
    rw [show (q1 - q2 - (-1074 - (q2 + 1074))).toNat = (q1 + 1074).toNat + 1074 by omega, Nat.pow_add, Nat.mul_assoc]
  have hP : (b64.qmin - (-1074 - (q2 + 1074))).toNat = (q2 + 1074).toNat := by rw [qmin_b64]; omega
  have hmm : zmag b64 V * 2 ^ (q2 + 1074).toNat * c2 = inUnits c1 (q1 - q2) (-1074 - (q2 + 1074)) := by
    rw [hq, ← hm, Nat.mul_assoc, Nat.mul_comm (2 ^ (q2 + 1074).toNat) c2]
  have l1 := zmag_roundRatio_le good_b64 (s := s1) (A := c1) (e := q1 - q2) (e0 := -1074 - (q2 + 1074)) hc2 fV nV (by rw [qmin_b64]; omega) (by omega) (by rw [hP, hmm]; exact Nat.le_refl _)
  have l2 := zmag_roundRatio_ge good_b64 (s := s1) (A := c1) (e := q1 - q2) (e0 := -1074 - (q2 + 1074)) hc2 fV (by rw [qmin_b64]; omega) (by omega) (by rw [hP, hmm]; exact Nat.le_refl _)
  have hmag : zmag b64 (val64 (Core.ddiv x y)) = zmag b64 V := by rw [hval]; omega
  have e : zval b64 (val64 (Core.ddiv x y)) = u := by
    unfold zval
    rw [hmag, hval, sgn_roundRatio]
    have h1 : (zval b64 V).natAbs = zmag b64 V := natAbs_signed _ _
    rw [eV] at h1
    -- the sign of u is that of z
    have hp : (0 : Int) < ((2 ^ 1074 : Nat) : Int) := Int.natCast_pos.mpr (Nat.two_pow_pos 1074)
    cases s1
    · have hz0 : 0 ≤ z := by rw [← z1']; simp [signed]; exact Int.natCast_nonneg _
      have : 0 ≤ u := by
        have : 0 ≤ u * w := by rw [hu]; exact Int.mul_nonneg hz0 (by omega)
        exact Int.nonneg_of_mul_nonneg_left this hw
      show ((zmag b64 V : Nat) : Int) = u
      omega
    · have hz0 : z ≤ 0 := by
        rw [← z1']; simp only [signed, if_true]; omega
      have : u ≤ 0 := by
        have h3 : 0 ≤ (-u) * w := by
          rw [Int.neg_mul, hu, ← Int.neg_mul]; exact Int.mul_nonneg (by omega) (by omega)
        have := Int.nonneg_of_mul_nonneg_left h3 hw
        omega
      show -((zmag b64 V : Nat) : Int) = u
      omega
  refine own_of ?_ r' e
  show val64 (Core.ddiv x y) ≠ .nan
  rw [hval]
  exact roundRatio_ne_nan _ _ _ _ _
theorem own_l2d {a : Int64} (h : a.toInt.natAbs ≤ 9007199254740992) : own_D (FP.l2d a) (a.toInt * ((2 ^ 1074 : Nat) : Int)) := by
  refine ⟨Core.l2d_fin a, ?_⟩
  exact DInt_zval (l2d_int (show _ ≤ 2 ^ 53 by omega))
theorem own_i2d (a : Int32) : own_D (FP.i2d a) (a.toInt * ((2 ^ 1074 : Nat) : Int)) := ⟨Core.i2d_fin a, DInt_zval (i2d_int a)⟩
theorem own_dcmp {x y : UInt64} {z w : Int} (hx : own_D x z) (hy : own_D y w) : FP.dcmp x y = some (compare z w) := by
  have h := dcmp_zval hx.nn hy.nn
  rw [hx.2, hy.2] at h
  exact h
theorem own_deq {x y : UInt64} {z : Int} (hx : own_D x z) (hy : own_D y z) (o : Jvm.ClassFile.CmpOp) : Jvm.Op.cmpValue (FP.dcmp x y) o = 0 := by
  rw [own_dcmp hx hy, show compare z z = .eq from (compare_eq_iff z z).mpr rfl]; rfl
end OwnDy
end Jvm.FP.Core
namespace Jvm.Pilot.@@N@@
open Jvm Jvm.ClassFile Sem Op Lib Jvm.Free Jvm.Stand Jvm.LawKit Jvm.RoadKit Bundle Jvm.Pilot.@@N@@.Jvm.D
open Jvm.FP.Core (own_D own_Rep own_rep own_dadd own_ddiv own_l2d own_i2d own_deq own_dcmp)
def own_pick {α : Type} (a b c d : α) : Nat → α
  | 0 => a
  | 1 => b
  | 2 => c
  | _ => d
def own_sum (A : Nat → Int) : Nat → Int
  | 0 => 0
  | n + 1 => own_sum A n + A n
theorem own_sum_b {A : Nat → Int} (h : ∀ j, (A j).natAbs ≤ 2147483648) : ∀ n, (own_sum A n).natAbs ≤ n * 2147483648
  | 0 => by simp [own_sum]
  | n + 1 => by
    have h1 := own_sum_b h n
    have h2 := h n
    show (own_sum A n + A n).natAbs ≤ _
    have h3 := Int.natAbs_add_le (own_sum A n) (A n)
    rw [Nat.add_mul]
    omega
theorem own_abs32 (x : Int32) : x.toInt.natAbs ≤ 2147483648 := by have := rng32 x; omega
theorem own_mul64 {k : Int64} {m : Int} (hk : k.toInt = m) (h1 : m = 1 ∨ m = 3) (x : Int32) : (k * x.toInt64).toInt = m * x.toInt := by
  have h := c_lmul k x.toInt64
  have r := rng64 (k * x.toInt64)
  have q := rng32 x
  rw [c_i2l, hk] at h
  rcases h1 with rfl | rfl <;> omega
theorem own_quot {a m n P T : Int} (e : n * P = m * T) : (a * P) * (n * T) = (m * a * T) * T := by
  calc (a * P) * (n * T) = a * (n * P) * T := by ac_rfl
    _ = a * (m * T) * T := by rw [e]
    _ = (m * a * T) * T := by ac_rfl
theorem own_T : (0 : Int) < ((2 ^ 1074 : Nat) : Int) := Int.natCast_pos.mpr (Nat.two_pow_pos 1074)
/-- one share: (m * a) over n -/
theorem own_share {k : Int64} {xn : Int32} {m n : Int} {K : Nat} (hk : k.toInt = m) (h1 : m = 1 ∨ m = 3) (hn : xn.toInt = n) (hn0 : 0 < n) (hK : K ≤ 2045) (e : n * ((2 ^ K : Nat) : Int) = m * ((2 ^ 1074 : Nat) : Int)) (x : Int32) :
    own_D (FP.ddiv (FP.l2d (k * x.toInt64)) (FP.i2d xn)) (x.toInt * ((2 ^ K : Nat) : Int)) := by
  have q := own_abs32 x
  have hx := own_mul64 hk h1 x
  have d1 : own_D (FP.l2d (k * x.toInt64)) ((k * x.toInt64).toInt * ((2 ^ 1074 : Nat) : Int)) := own_l2d (by rw [hx]; rcases h1 with rfl | rfl <;> omega)
  have d2 := own_i2d xn
  rw [hx] at d1
  rw [hn] at d2
  exact own_ddiv d1 d2 (Int.mul_pos hn0 own_T) (own_rep _ _ (by omega) hK) (own_quot e)
/-- the sum over n -/
theorem own_whole {z : Int64} {xn : Int32} {n S : Int} {K : Nat} (hz : z.toInt = S) (hS : S.natAbs ≤ 9000000000) (hn : xn.toInt = n) (hn0 : 0 < n) (hK : K ≤ 2045) (e : n * ((2 ^ K : Nat) : Int) = 1 * ((2 ^ 1074 : Nat) : Int)) :
    own_D (FP.ddiv (FP.l2d z) (FP.i2d xn)) (S * ((2 ^ K : Nat) : Int)) := by
  have d1 : own_D (FP.l2d z) (z.toInt * ((2 ^ 1074 : Nat) : Int)) := own_l2d (by rw [hz]; omega)
  have d2 := own_i2d xn
  rw [hz] at d1
  rw [hn] at d2
  exact own_ddiv d1 d2 (Int.mul_pos hn0 own_T) (own_rep _ _ (by omega) hK) ((own_quot e).trans (by rw [Int.one_mul]))
theorem own_e1 : (1 : Int) * ((2 ^ 1074 : Nat) : Int) = 1 * ((2 ^ 1074 : Nat) : Int) := rfl
theorem own_e2 : (2 : Int) * ((2 ^ 1073 : Nat) : Int) = 1 * ((2 ^ 1074 : Nat) : Int) := by decide +kernel
theorem own_e3 : (3 : Int) * ((2 ^ 1074 : Nat) : Int) = 3 * ((2 ^ 1074 : Nat) : Int) := rfl
theorem own_e4 : (4 : Int) * ((2 ^ 1072 : Nat) : Int) = 1 * ((2 ^ 1074 : Nat) : Int) := by decide +kernel
theorem own_i1 {x : Int32} {i : Nat} (h : x.toInt = (i : Int)) (hi : i < 1000) : (x + (1 : Int32)).toInt = ((i + 1 : Nat) : Int) := by
  have h1 := c_iadd x 1
  have h2 := rng32 (x + 1)
  rw [show (1 : Int32).toInt = 1 by decide] at h1
  omega
theorem own_zero : own_D 0 0 := by
  have h := own_l2d (a := 0) (by decide)
  rw [l2d_zero, show (0 : Int64).toInt = 0 by decide, Int.zero_mul] at h
  exact h
theorem own_add64 {a : Int64} {b : Int32} {A : Int} (ha : a.toInt = A) (hA : A.natAbs ≤ 9000000000) : (a + b.toInt64).toInt = A + b.toInt := by
  have h := c_ladd a b.toInt64
  have r := rng64 (a + b.toInt64)
  have q := rng32 b
  rw [c_i2l, ha] at h
  omega
theorem own_pn0 : plainName "com/example/wallingford/wallingford/statistics/SampleStatistics" = true := by first | (simp [plainName, overriddenIn]; done) | decide +kernel
theorem own_ef1 (m : MethodId) (x0 : Addr) : entryFrame m #[(.ref x0)] 8 = mkF m 0 #[.val (.ref x0), .unset, .unset, .unset, .unset, .unset, .unset, .unset] [] := by first | (simp [entryFrame, mkF, argsToLocals, Value.category]; done) | rfl
theorem own_d_prog_93_2_0 : decode prog_93_method_2_code 0 = .ok (.dconst 0, 1) := by decide +kernel
theorem own_d_prog_93_2_1 : decode prog_93_method_2_code 1 = .ok (.dstore_n 1, 1) := by decide +kernel
theorem own_d_prog_93_2_2 : decode prog_93_method_2_code 2 = .ok (.aload_n 0, 1) := by decide +kernel
theorem own_d_prog_93_2_3 : decode prog_93_method_2_code 3 = .ok (.astore_n 3, 1) := by decide +kernel
theorem own_d_prog_93_2_4 : decode prog_93_method_2_code 4 = .ok (.aload_n 3, 1) := by decide +kernel
theorem own_d_prog_93_2_5 : decode prog_93_method_2_code 5 = .ok (.arraylength, 1) := by decide +kernel
theorem own_d_prog_93_2_6 : decode prog_93_method_2_code 6 = .ok (.istore 4, 2) := by decide +kernel
theorem own_d_prog_93_2_8 : decode prog_93_method_2_code 8 = .ok (.iconst 0, 1) := by decide +kernel
theorem own_d_prog_93_2_9 : decode prog_93_method_2_code 9 = .ok (.istore 5, 2) := by decide +kernel
theorem own_d_prog_93_2_11 : decode prog_93_method_2_code 11 = .ok (.iload 5, 2) := by decide +kernel
theorem own_d_prog_93_2_13 : decode prog_93_method_2_code 13 = .ok (.iload 4, 2) := by decide +kernel
theorem own_d_prog_93_2_15 : decode prog_93_method_2_code 15 = .ok (.if_icmp .ge 24, 3) := by decide +kernel
theorem own_d_prog_93_2_18 : decode prog_93_method_2_code 18 = .ok (.aload_n 3, 1) := by decide +kernel
theorem own_d_prog_93_2_19 : decode prog_93_method_2_code 19 = .ok (.iload 5, 2) := by decide +kernel
theorem own_d_prog_93_2_21 : decode prog_93_method_2_code 21 = .ok (.daload, 1) := by decide +kernel
theorem own_d_prog_93_2_22 : decode prog_93_method_2_code 22 = .ok (.dstore 6, 2) := by decide +kernel
theorem own_d_prog_93_2_24 : decode prog_93_method_2_code 24 = .ok (.dload_n 1, 1) := by decide +kernel
theorem own_d_prog_93_2_25 : decode prog_93_method_2_code 25 = .ok (.dload 6, 2) := by decide +kernel
theorem own_d_prog_93_2_27 : decode prog_93_method_2_code 27 = .ok (.aload_n 0, 1) := by decide +kernel
theorem own_d_prog_93_2_28 : decode prog_93_method_2_code 28 = .ok (.arraylength, 1) := by decide +kernel
theorem own_d_prog_93_2_29 : decode prog_93_method_2_code 29 = .ok (.i2d, 1) := by decide +kernel
theorem own_d_prog_93_2_30 : decode prog_93_method_2_code 30 = .ok (.ddiv, 1) := by decide +kernel
theorem own_d_prog_93_2_31 : decode prog_93_method_2_code 31 = .ok (.dadd, 1) := by decide +kernel
theorem own_d_prog_93_2_32 : decode prog_93_method_2_code 32 = .ok (.dstore_n 1, 1) := by decide +kernel
theorem own_d_prog_93_2_33 : decode prog_93_method_2_code 33 = .ok (.iinc 5 1, 3) := by decide +kernel
theorem own_d_prog_93_2_36 : decode prog_93_method_2_code 36 = .ok (.goto (-25), 3) := by decide +kernel
theorem own_d_prog_93_2_39 : decode prog_93_method_2_code 39 = .ok (.dload_n 1, 1) := by decide +kernel
theorem own_d_prog_93_2_40 : decode prog_93_method_2_code 40 = .ok (.dreturn, 1) := by decide +kernel
def own_Q_own_mean (Z : State) (r : Addr) (xn : Int32) (N K : Nat) (gf : Nat → UInt64) (A : Nat → Int) (h0 : Heap) (n0 : Nat) (v : Option Value) (h : Heap) (L : List Loc) : Prop := ∃ d, v = some (.double d) ∧ Fr n0 L ∧ own_D d (own_sum A N * ((2 ^ K : Nat) : Int)) ∧ h = h0
set_option maxRecDepth 65536 in
set_option maxHeartbeats 40000000 in
theorem own_mean (l : Launch) (Z : State) (a0 : Array Value) (hw : ∀ d ∈ tables_1, d.before a0 Z = true) (ws : List Jvm.Cond) (r : Addr) (xn : Int32) (N K : Nat) (gf : Nat → UInt64) (A : Nat → Int) (h0 : Heap) (n0 : Nat) (Z0 : n0 ≤ h0.size) (ar : own_Ar Z h0 r .double N (fun j => .double (gf j))) (hn : xn.toInt = (N : Int)) (hN : N ≤ 4) (hkk : K ≤ 2045) (hA : ∀ j, (A j).natAbs ≤ 2147483648) (hD : ∀ j, j < N → own_D (FP.ddiv (gf j) (FP.i2d xn)) (A j * ((2 ^ K : Nat) : Int))) :
    MetFree l (⟨"com/example/wallingford/wallingford/statistics/SampleStatistics", "mean", "([D)D"⟩ : MethodName) (head1 (Jvm.Cond.code (⟨"com/example/wallingford/wallingford/statistics/SampleStatistics", "mean", "([D)D"⟩ : MethodName) prog_93_method_2_code 8 (some .double) :: ws) ({ frames := 0, cells := 0, slots := 0, locals := 0 } : Room)) (fun av_ U => av_ = #[(.ref r)] ∧ Z.Warmed39 U.vm ∧ U.heap = h0) (fun _ _ _ _ _ => True) (fun _ U o U' => ∃ v L, o = .returned v ∧ own_Q_own_mean Z r xn N K gf A h0 n0 v U'.heap L ∧ FrameEnd U o U' L ({ frames := 0, cells := 0, slots := 0, locals := 0 } : Room).cells ({ frames := 0, cells := 0, slots := 0, locals := 0 } : Room).slots) := by
  refine MetFree.of_bodySF (plainFor_of_name own_pn0) hisR ?_
  intro p e s m args below meth c s₁ Bd hml0 hP hK
  obtain ⟨rfl, hZ, hh⟩ := hP
  have hx := Bd.exec
  have hby := Bd.bytes
  have hml : c.maxLocals = 8 := hml0
  have hown : s.vm.findClass "com/example/wallingford/wallingford/statistics/SampleStatistics" = some m.cls := findClass_of_methodNamed Bd.named
  have hnm := (name_of_methodNamed Bd.named Bd.method).1
  have X0 : Stand p l e ({ frames := 0, cells := 0, slots := 0, locals := 0 } : Room) s m #[(.ref r)] below meth c s₁ [] 0 0 := Stand.of_body Bd
  have e0 : s₁.heap = h0 := by rw [← hh, Bd.state]; rfl
  have N0 := Fr.nil n0
  suffices hgo : own_Go p e below (fun o U' => ∃ v L, o = .returned v ∧ own_Q_own_mean Z r xn N K gf A h0 n0 v U'.heap L ∧ FrameEnd s o U' L ({ frames := 0, cells := 0, slots := 0, locals := 0 } : Room).cells ({ frames := 0, cells := 0, slots := 0, locals := 0 } : Room).slots) (s₁.setTop (mkF m 0 #[.val (.ref r), .unset, .unset, .unset, .unset, .unset, .unset, .unset] [])) by
    obtain ⟨s₂, o, h1, h2, h3, h4⟩ := hgo
    exact ⟨s₂, o, castTop (own_ef1 m r) h1, h2, h3, h4⟩
  show own_Go p e below _ (s₁.setTop (mkF m 0 #[.val (.ref r), .unset, .unset, .unset, .unset, .unset, .unset, .unset] []))
  refine own_Go.st (fun _ kt => XS.dconst0 X0.here hx rfl (hb hby own_d_prog_93_2_0) rfl kt) ?_
  show own_Go p e below _ (s₁.setTop (mkF m 1 #[.val (.ref r), .unset, .unset, .unset, .unset, .unset, .unset, .unset] [(.double FP.dconst0)]))
  refine own_Go.st (fun _ kt => XS.dstoreN X0.here hx rfl (hb hby own_d_prog_93_2_1) rfl (l' := #[.val (.ref r), .val (.double FP.dconst0), .second, .unset, .unset, .unset, .unset, .unset]) rfl kt) ?_
  show own_Go p e below _ (s₁.setTop (mkF m 2 #[.val (.ref r), .val (.double FP.dconst0), .second, .unset, .unset, .unset, .unset, .unset] []))
  refine own_Go.st (fun _ kt => XS.aloadN X0.here hx rfl (hb hby own_d_prog_93_2_2) rfl rfl kt) ?_
  show own_Go p e below _ (s₁.setTop (mkF m 3 #[.val (.ref r), .val (.double FP.dconst0), .second, .unset, .unset, .unset, .unset, .unset] [(.ref r)]))
  refine own_Go.st (fun _ kt => XS.astoreN X0.here hx rfl (hb hby own_d_prog_93_2_3) rfl rfl (l' := #[.val (.ref r), .val (.double FP.dconst0), .second, .val (.ref r), .unset, .unset, .unset, .unset]) rfl kt) ?_
  show own_Go p e below _ (s₁.setTop (mkF m 4 #[.val (.ref r), .val (.double FP.dconst0), .second, .val (.ref r), .unset, .unset, .unset, .unset] []))
  refine own_Go.st (fun _ kt => XS.aloadN X0.here hx rfl (hb hby own_d_prog_93_2_4) rfl rfl kt) ?_
  show own_Go p e below _ (s₁.setTop (mkF m 5 #[.val (.ref r), .val (.double FP.dconst0), .second, .val (.ref r), .unset, .unset, .unset, .unset] [(.ref r)]))
  refine own_Go.st (fun _ kt => own_alen X0 hx hZ e0 ar (z := xn) hn (g := (mkF m 5 #[.val (.ref r), .val (.double FP.dconst0), .second, .val (.ref r), .unset, .unset, .unset, .unset] [(.ref r)])) rfl rfl (hb hby own_d_prog_93_2_5) _ kt) ?_
  show own_Go p e below _ (s₁.setTop (mkF m 6 #[.val (.ref r), .val (.double FP.dconst0), .second, .val (.ref r), .unset, .unset, .unset, .unset] [(.int xn)]))
  refine own_Go.st (fun _ kt => XS.istore X0.here hx rfl (hb hby own_d_prog_93_2_6) rfl (l' := #[.val (.ref r), .val (.double FP.dconst0), .second, .val (.ref r), .val (.int xn), .unset, .unset, .unset]) rfl kt) ?_
  show own_Go p e below _ (s₁.setTop (mkF m 8 #[.val (.ref r), .val (.double FP.dconst0), .second, .val (.ref r), .val (.int xn), .unset, .unset, .unset] []))
  refine own_Go.st (fun _ kt => XS.iconst X0.here hx rfl (hb hby own_d_prog_93_2_8) kt) ?_
  show own_Go p e below _ (s₁.setTop (mkF m 9 #[.val (.ref r), .val (.double FP.dconst0), .second, .val (.ref r), .val (.int xn), .unset, .unset, .unset] [(.int (0 : Int32))]))
  refine own_Go.st (fun _ kt => XS.istore X0.here hx rfl (hb hby own_d_prog_93_2_9) rfl (l' := #[.val (.ref r), .val (.double FP.dconst0), .second, .val (.ref r), .val (.int xn), .val (.int (0 : Int32)), .unset, .unset]) rfl kt) ?_
  show own_Go p e below _ (s₁.setTop (mkF m 11 #[.val (.ref r), .val (.double FP.dconst0), .second, .val (.ref r), .val (.int xn), .val (.int (0 : Int32)), .unset, .unset] []))
  have LO : ∀ (t : Nat) (T1 : State) (lc1 : List Loc) (X1 : Stand p l e ({ frames := 0, cells := 0, slots := 0, locals := 0 } : Room) s m #[(.ref r)] below meth c T1 lc1 0 0) (e1 : T1.heap = h0) (N1 : Fr n0 lc1) (i : Nat) (xi : Int32) (xm : UInt64) (s6 : Slot) (s7 : Slot) (ht : i + t = N) (hxi : xi.toInt = (i : Int)) (h6 : (s6 = .unset ∧ s7 = .unset) ∨ ∃ y6, s6 = .val (.double y6) ∧ s7 = .second) (hm : own_D xm (own_sum A i * ((2 ^ K : Nat) : Int))), own_Go p e below (fun o U' => ∃ v L, o = .returned v ∧ own_Q_own_mean Z r xn N K gf A h0 n0 v U'.heap L ∧ FrameEnd s o U' L ({ frames := 0, cells := 0, slots := 0, locals := 0 } : Room).cells ({ frames := 0, cells := 0, slots := 0, locals := 0 } : Room).slots) (T1.setTop (mkF m 11 #[.val (.ref r), .val (.double xm), .second, .val (.ref r), .val (.int xn), .val (.int xi), s6, s7] [])) := by
    intro t
    induction t using Nat.strongRecOn with
    | ind t IH =>
      intro T1 lc1 X1 e1 N1 i xi xm s6 s7 ht hxi h6 hm
      show own_Go p e below _ (T1.setTop (mkF m 11 #[.val (.ref r), .val (.double xm), .second, .val (.ref r), .val (.int xn), .val (.int xi), s6, s7] []))
      refine own_Go.st (fun _ kt => XS.iload X1.here hx rfl (hb hby own_d_prog_93_2_11) rfl kt) ?_
      show own_Go p e below _ (T1.setTop (mkF m 13 #[.val (.ref r), .val (.double xm), .second, .val (.ref r), .val (.int xn), .val (.int xi), s6, s7] [(.int xi)]))
      refine own_Go.st (fun _ kt => XS.iload X1.here hx rfl (hb hby own_d_prog_93_2_13) rfl kt) ?_
      show own_Go p e below _ (T1.setTop (mkF m 15 #[.val (.ref r), .val (.double xm), .second, .val (.ref r), .val (.int xn), .val (.int xi), s6, s7] [(.int xn), (.int xi)]))
      have hci : xi < xn ↔ i < N := by rw [Int32.lt_iff_toInt_lt, hxi, hn]; omega
      by_cases hc15 : xi < xn
      · refine own_Go.st (fun _ kt => XS.icmpNo X1.here hx rfl (hb hby own_d_prog_93_2_15) rfl (tlt hc15).2.1 kt) ?_
        show own_Go p e below _ (T1.setTop (mkF m 18 #[.val (.ref r), .val (.double xm), .second, .val (.ref r), .val (.int xn), .val (.int xi), s6, s7] []))
        have hi : i < N := hci.mp hc15
        refine own_Go.st (fun _ kt => XS.aloadN X1.here hx rfl (hb hby own_d_prog_93_2_18) rfl rfl kt) ?_
        show own_Go p e below _ (T1.setTop (mkF m 19 #[.val (.ref r), .val (.double xm), .second, .val (.ref r), .val (.int xn), .val (.int xi), s6, s7] [(.ref r)]))
        refine own_Go.st (fun _ kt => XS.iload X1.here hx rfl (hb hby own_d_prog_93_2_19) rfl kt) ?_
        show own_Go p e below _ (T1.setTop (mkF m 21 #[.val (.ref r), .val (.double xm), .second, .val (.ref r), .val (.int xn), .val (.int xi), s6, s7] [(.int xi), (.ref r)]))
        refine own_Go.st (fun _ kt => own_dld X1 hx hZ e1 ar hxi hi (v := (.double (gf i))) rfl (g := (mkF m 21 #[.val (.ref r), .val (.double xm), .second, .val (.ref r), .val (.int xn), .val (.int xi), s6, s7] [(.int xi), (.ref r)])) rfl rfl (hb hby own_d_prog_93_2_21) _ kt) ?_
        show own_Go p e below _ (T1.setTop (mkF m 22 #[.val (.ref r), .val (.double xm), .second, .val (.ref r), .val (.int xn), .val (.int xi), s6, s7] [(.double (gf i))]))
        refine own_Go.st (fun _ kt => XS.dstore X1.here hx rfl (hb hby own_d_prog_93_2_22) rfl (l' := #[.val (.ref r), .val (.double xm), .second, .val (.ref r), .val (.int xn), .val (.int xi), .val (.double (gf i)), .second]) (by rcases h6 with ⟨rfl, rfl⟩ | ⟨y6, rfl, rfl⟩ <;> rfl) kt) ?_
        show own_Go p e below _ (T1.setTop (mkF m 24 #[.val (.ref r), .val (.double xm), .second, .val (.ref r), .val (.int xn), .val (.int xi), .val (.double (gf i)), .second] []))
        refine own_Go.st (fun _ kt => XS.dloadN X1.here hx rfl (hb hby own_d_prog_93_2_24) rfl kt) ?_
        show own_Go p e below _ (T1.setTop (mkF m 25 #[.val (.ref r), .val (.double xm), .second, .val (.ref r), .val (.int xn), .val (.int xi), .val (.double (gf i)), .second] [(.double xm)]))
        refine own_Go.st (fun _ kt => XS.dload X1.here hx rfl (hb hby own_d_prog_93_2_25) rfl kt) ?_
        show own_Go p e below _ (T1.setTop (mkF m 27 #[.val (.ref r), .val (.double xm), .second, .val (.ref r), .val (.int xn), .val (.int xi), .val (.double (gf i)), .second] [(.double (gf i)), (.double xm)]))
        refine own_Go.st (fun _ kt => XS.aloadN X1.here hx rfl (hb hby own_d_prog_93_2_27) rfl rfl kt) ?_
        show own_Go p e below _ (T1.setTop (mkF m 28 #[.val (.ref r), .val (.double xm), .second, .val (.ref r), .val (.int xn), .val (.int xi), .val (.double (gf i)), .second] [(.ref r), (.double (gf i)), (.double xm)]))
        refine own_Go.st (fun _ kt => own_alen X1 hx hZ e1 ar (z := xn) hn (g := (mkF m 28 #[.val (.ref r), .val (.double xm), .second, .val (.ref r), .val (.int xn), .val (.int xi), .val (.double (gf i)), .second] [(.ref r), (.double (gf i)), (.double xm)])) rfl rfl (hb hby own_d_prog_93_2_28) _ kt) ?_
        show own_Go p e below _ (T1.setTop (mkF m 29 #[.val (.ref r), .val (.double xm), .second, .val (.ref r), .val (.int xn), .val (.int xi), .val (.double (gf i)), .second] [(.int xn), (.double (gf i)), (.double xm)]))
        refine own_Go.st (fun _ kt => XS.i2dS X1.here hx rfl (hb hby own_d_prog_93_2_29) rfl rfl kt) ?_
        show own_Go p e below _ (T1.setTop (mkF m 30 #[.val (.ref r), .val (.double xm), .second, .val (.ref r), .val (.int xn), .val (.int xi), .val (.double (gf i)), .second] [(.double (FP.i2d xn)), (.double (gf i)), (.double xm)]))
        have sb := own_sum_b hA (i + 1)
        have hs : own_sum A (i + 1) = own_sum A i + A i := rfl
        refine own_Go.st (fun _ kt => XS.ddivS X1.here hx rfl (hb hby own_d_prog_93_2_30) rfl (Jvm.FP.Core.own_D.n64 (hD i hi)) rfl kt) ?_
        show own_Go p e below _ (T1.setTop (mkF m 31 #[.val (.ref r), .val (.double xm), .second, .val (.ref r), .val (.int xn), .val (.int xi), .val (.double (gf i)), .second] [(.double (FP.ddiv (gf i) (FP.i2d xn))), (.double xm)]))
        have hadd : own_D (FP.dadd xm (FP.ddiv (gf i) (FP.i2d xn))) (own_sum A (i + 1) * ((2 ^ K : Nat) : Int)) := by
          have q := own_dadd hm (hD i hi) (by rw [← Int.add_mul, ← hs]; exact own_rep _ _ (by omega) hkk)
          rw [← Int.add_mul, ← hs] at q
          exact q
        refine own_Go.st (fun _ kt => XS.daddS X1.here hx rfl (hb hby own_d_prog_93_2_31) rfl (Jvm.FP.Core.own_D.n64 hadd) rfl kt) ?_
        show own_Go p e below _ (T1.setTop (mkF m 32 #[.val (.ref r), .val (.double xm), .second, .val (.ref r), .val (.int xn), .val (.int xi), .val (.double (gf i)), .second] [(.double (FP.dadd xm (FP.ddiv (gf i) (FP.i2d xn))))]))
        refine own_Go.st (fun _ kt => XS.dstoreN X1.here hx rfl (hb hby own_d_prog_93_2_32) rfl (l' := #[.val (.ref r), .val (.double (FP.dadd xm (FP.ddiv (gf i) (FP.i2d xn)))), .second, .val (.ref r), .val (.int xn), .val (.int xi), .val (.double (gf i)), .second]) rfl kt) ?_
        show own_Go p e below _ (T1.setTop (mkF m 33 #[.val (.ref r), .val (.double (FP.dadd xm (FP.ddiv (gf i) (FP.i2d xn)))), .second, .val (.ref r), .val (.int xn), .val (.int xi), .val (.double (gf i)), .second] []))
        refine own_Go.st (fun _ kt => XS.iinc X1.here hx rfl (hb hby own_d_prog_93_2_33) rfl (l' := #[.val (.ref r), .val (.double (FP.dadd xm (FP.ddiv (gf i) (FP.i2d xn)))), .second, .val (.ref r), .val (.int xn), .val (.int (xi + (1 : Int32))), .val (.double (gf i)), .second]) rfl kt) ?_
        show own_Go p e below _ (T1.setTop (mkF m 36 #[.val (.ref r), .val (.double (FP.dadd xm (FP.ddiv (gf i) (FP.i2d xn)))), .second, .val (.ref r), .val (.int xn), .val (.int (xi + (1 : Int32))), .val (.double (gf i)), .second] []))
        refine own_Go.st (fun _ kt => XS.goto X1.here hx rfl (pc0 := 36) (pc' := 11) rfl (hb hby own_d_prog_93_2_36) (by decide) (by decide) kt) ?_
        show own_Go p e below _ (T1.setTop (mkF m 11 #[.val (.ref r), .val (.double (FP.dadd xm (FP.ddiv (gf i) (FP.i2d xn)))), .second, .val (.ref r), .val (.int xn), .val (.int (xi + (1 : Int32))), .val (.double (gf i)), .second] []))
        exact IH (t - 1) (by omega) _ _ X1 e1 N1 (i + 1) _ _ _ _ (by omega) (own_i1 hxi (by omega)) (Or.inr ⟨_, rfl, rfl⟩) hadd
      · refine own_Go.st (fun _ kt => XS.icmpYes X1.here hx rfl (pc0 := 15) (pc' := 39) rfl (hb hby own_d_prog_93_2_15) rfl (flt hc15).2.1 (by decide) (by decide) kt) ?_
        show own_Go p e below _ (T1.setTop (mkF m 39 #[.val (.ref r), .val (.double xm), .second, .val (.ref r), .val (.int xn), .val (.int xi), s6, s7] []))
        refine own_Go.st (fun _ kt => XS.dloadN X1.here hx rfl (hb hby own_d_prog_93_2_39) rfl kt) ?_
        show own_Go p e below _ (T1.setTop (mkF m 40 #[.val (.ref r), .val (.double xm), .second, .val (.ref r), .val (.int xn), .val (.int xi), s6, s7] [(.double xm)]))
        have hi : i = N := by have := mt hci.mpr hc15; omega
        subst hi
        exact own_retD X1 hx Bd.notSynchronized Bd.returns (hb hby own_d_prog_93_2_40) (by decide) (by decide) ⟨_, rfl, N1, hm, e1⟩
  have z0 : own_D FP.dconst0 (own_sum A 0 * ((2 ^ K : Nat) : Int)) := by rw [show own_sum A 0 = 0 from rfl, Int.zero_mul]; exact own_zero
  exact LO N _ _ X0 e0 N0 0 _ _ _ _ (by omega) (by decide) (Or.inl ⟨rfl, rfl⟩) z0
theorem own_pn1 : plainName "com/example/wallingford/wallingford/statistics/SampleStatisticsMeanPinLaw" = true := by first | (simp [plainName, overriddenIn]; done) | decide +kernel
theorem own_ef2 (m : MethodId) (x0 : Int32) (x1 : Int32) (x2 : Int32) (x3 : Int32) (x4 : Int32) : entryFrame m #[(.int x0), (.int x1), (.int x2), (.int x3), (.int x4)] maxLocals = mkF m 0 #[.val (.int x0), .val (.int x1), .val (.int x2), .val (.int x3), .val (.int x4), .unset, .unset, .unset, .unset, .unset, .unset, .unset, .unset, .unset, .unset] [] := by first | (simp [entryFrame, mkF, argsToLocals, Value.category, maxLocals]; done) | rfl
theorem own_pd0 : parseMethodDescriptor "([D)D" = some ⟨[(.array .double)], some .double⟩ := by decide +kernel
def own_Q_own_law (Z : State) (p0 p1 p2 p3 p4 : Int32) (h0 : Heap) (n0 : Nat) (v : Option Value) (h : Heap) (L : List Loc) : Prop := v = some (.int 1) ∧ Fr n0 L
set_option maxRecDepth 65536 in
set_option maxHeartbeats 40000000 in
theorem own_law (l : Launch) (Z : State) (a0 : Array Value) (hw : ∀ d ∈ tables_1, d.before a0 Z = true) (ws : List Jvm.Cond) (p0 p1 p2 p3 p4 : Int32) (h0 : Heap) (n0 : Nat) (Z0 : n0 ≤ h0.size)  :
    MetFree l x (head1 (Jvm.Cond.code x code maxLocals ret :: ws) room_1) (fun av_ U => av_ = #[(.int p0), (.int p1), (.int p2), (.int p3), (.int p4)] ∧ Z.Warmed39 U.vm ∧ U.heap = h0) (fun _ _ _ _ _ => True) (fun _ U o U' => ∃ v L, o = .returned v ∧ own_Q_own_law Z p0 p1 p2 p3 p4 h0 n0 v U'.heap L ∧ FrameEnd U o U' L room_1.cells room_1.slots) := by
  refine MetFree.of_bodySF (plainFor_of_name own_pn1) hisR ?_
  intro p e s m args below meth c s₁ Bd hml0 hP hK
  obtain ⟨rfl, hZ, hh⟩ := hP
  have hx := Bd.exec
  have hby := Bd.bytes
  have hml : c.maxLocals = 15 := hml0
  have hown : s.vm.findClass "com/example/wallingford/wallingford/statistics/SampleStatisticsMeanPinLaw" = some m.cls := findClass_of_methodNamed Bd.named
  have hnm := (name_of_methodNamed Bd.named Bd.method).1
  have X0 : Stand p l e room_1 s m #[(.int p0), (.int p1), (.int p2), (.int p3), (.int p4)] below meth c s₁ [] 0 0 := Stand.of_body Bd
  have e0 : s₁.heap = h0 := by rw [← hh, Bd.state]; rfl
  have N0 := Fr.nil n0
  suffices hgo : own_Go p e below (fun o U' => ∃ v L, o = .returned v ∧ own_Q_own_law Z p0 p1 p2 p3 p4 h0 n0 v U'.heap L ∧ FrameEnd s o U' L room_1.cells room_1.slots) (s₁.setTop (mkF m 0 #[.val (.int p0), .val (.int p1), .val (.int p2), .val (.int p3), .val (.int p4), .unset, .unset, .unset, .unset, .unset, .unset, .unset, .unset, .unset, .unset] [])) by
    obtain ⟨s₂, o, h1, h2, h3, h4⟩ := hgo
    exact ⟨s₂, o, castTop (own_ef2 m p0 p1 p2 p3 p4) h1, h2, h3, h4⟩
  show own_Go p e below _ (s₁.setTop (mkF m 0 #[.val (.int p0), .val (.int p1), .val (.int p2), .val (.int p3), .val (.int p4), .unset, .unset, .unset, .unset, .unset, .unset, .unset, .unset, .unset, .unset] []))
  refine own_Go.st (fun _ kt => XS.iconst X0.here hx rfl (hb hby at_0) kt) ?_
  show own_Go p e below _ (s₁.setTop (mkF m 1 #[.val (.int p0), .val (.int p1), .val (.int p2), .val (.int p3), .val (.int p4), .unset, .unset, .unset, .unset, .unset, .unset, .unset, .unset, .unset, .unset] [(.int (1 : Int32))]))
  refine own_Go.st (fun _ kt => XS.iloadN X0.here hx rfl (hb hby at_1) rfl kt) ?_
  show own_Go p e below _ (s₁.setTop (mkF m 2 #[.val (.int p0), .val (.int p1), .val (.int p2), .val (.int p3), .val (.int p4), .unset, .unset, .unset, .unset, .unset, .unset, .unset, .unset, .unset, .unset] [(.int p0), (.int (1 : Int32))]))
  refine own_Go.st (fun _ kt => XS.iconst X0.here hx rfl (hb hby at_2) kt) ?_
  show own_Go p e below _ (s₁.setTop (mkF m 3 #[.val (.int p0), .val (.int p1), .val (.int p2), .val (.int p3), .val (.int p4), .unset, .unset, .unset, .unset, .unset, .unset, .unset, .unset, .unset, .unset] [(.int (3 : Int32)), (.int p0), (.int (1 : Int32))]))
  refine own_Go.st (fun _ kt => XS.iand X0.here hx rfl (hb hby at_3) rfl kt) ?_
  show own_Go p e below _ (s₁.setTop (mkF m 4 #[.val (.int p0), .val (.int p1), .val (.int p2), .val (.int p3), .val (.int p4), .unset, .unset, .unset, .unset, .unset, .unset, .unset, .unset, .unset, .unset] [(.int (p0 &&& (3 : Int32))), (.int (1 : Int32))]))
  refine own_Go.st (fun _ kt => XS.iadd X0.here hx rfl (hb hby at_4) rfl kt) ?_
  show own_Go p e below _ (s₁.setTop (mkF m 5 #[.val (.int p0), .val (.int p1), .val (.int p2), .val (.int p3), .val (.int p4), .unset, .unset, .unset, .unset, .unset, .unset, .unset, .unset, .unset, .unset] [(.int ((1 : Int32) + (p0 &&& (3 : Int32))))]))
  have hn : ((1 : Int32) + (p0 &&& (3 : Int32))) = 1 ∨ ((1 : Int32) + (p0 &&& (3 : Int32))) = 2 ∨ ((1 : Int32) + (p0 &&& (3 : Int32))) = 3 ∨ ((1 : Int32) + (p0 &&& (3 : Int32))) = 4 := by
    have h1 := c_mask p0 3 2 (by decide) (by decide)
    have h2 := c_iadd 1 (p0 &&& 3)
    have h3 := rng32 (1 + (p0 &&& 3))
    rw [show (1 : Int32).toInt = 1 by decide] at h2
    rw [← Int32.toInt_inj, ← Int32.toInt_inj, ← Int32.toInt_inj, ← Int32.toInt_inj, show (1 : Int32).toInt = 1 by decide, show (2 : Int32).toInt = 2 by decide, show (3 : Int32).toInt = 3 by decide, show (4 : Int32).toInt = 4 by decide]
    omega
  generalize ((1 : Int32) + (p0 &&& (3 : Int32))) = xn at hn ⊢
  show own_Go p e below _ (s₁.setTop (mkF m 5 #[.val (.int p0), .val (.int p1), .val (.int p2), .val (.int p3), .val (.int p4), .unset, .unset, .unset, .unset, .unset, .unset, .unset, .unset, .unset, .unset] [(.int xn)]))
  rcases hn with rfl | rfl | rfl | rfl
  · show own_Go p e below _ (s₁.setTop (mkF m 5 #[.val (.int p0), .val (.int p1), .val (.int p2), .val (.int p3), .val (.int p4), .unset, .unset, .unset, .unset, .unset, .unset, .unset, .unset, .unset, .unset] [(.int (1 : Int32))]))
    refine own_Go.st (fun _ kt => XS.istore X0.here hx rfl (hb hby at_5) rfl (l' := #[.val (.int p0), .val (.int p1), .val (.int p2), .val (.int p3), .val (.int p4), .val (.int (1 : Int32)), .unset, .unset, .unset, .unset, .unset, .unset, .unset, .unset, .unset]) rfl kt) ?_
    show own_Go p e below _ (s₁.setTop (mkF m 7 #[.val (.int p0), .val (.int p1), .val (.int p2), .val (.int p3), .val (.int p4), .val (.int (1 : Int32)), .unset, .unset, .unset, .unset, .unset, .unset, .unset, .unset, .unset] []))
    refine own_Go.st (fun _ kt => XS.iload X0.here hx rfl (hb hby at_7) rfl kt) ?_
    show own_Go p e below _ (s₁.setTop (mkF m 9 #[.val (.int p0), .val (.int p1), .val (.int p2), .val (.int p3), .val (.int p4), .val (.int (1 : Int32)), .unset, .unset, .unset, .unset, .unset, .unset, .unset, .unset, .unset] [(.int (1 : Int32))]))
    refine own_Go.st (fun _ kt => XS.iconst X0.here hx rfl (hb hby at_9) kt) ?_
    show own_Go p e below _ (s₁.setTop (mkF m 10 #[.val (.int p0), .val (.int p1), .val (.int p2), .val (.int p3), .val (.int p4), .val (.int (1 : Int32)), .unset, .unset, .unset, .unset, .unset, .unset, .unset, .unset, .unset] [(.int (3 : Int32)), (.int (1 : Int32))]))
    refine own_Go.st (fun _ kt => XS.icmpYes X0.here hx rfl (pc0 := 10) (pc' := 19) rfl (hb hby at_10) rfl (feq (by decide)).2 (by decide) (by decide) kt) ?_
    show own_Go p e below _ (s₁.setTop (mkF m 19 #[.val (.int p0), .val (.int p1), .val (.int p2), .val (.int p3), .val (.int p4), .val (.int (1 : Int32)), .unset, .unset, .unset, .unset, .unset, .unset, .unset, .unset, .unset] []))
    refine own_Go.st (fun _ kt => XS.lconst X0.here hx rfl (hb hby at_19) kt) ?_
    show own_Go p e below _ (s₁.setTop (mkF m 20 #[.val (.int p0), .val (.int p1), .val (.int p2), .val (.int p3), .val (.int p4), .val (.int (1 : Int32)), .unset, .unset, .unset, .unset, .unset, .unset, .unset, .unset, .unset] [(.long (1 : Int64))]))
    refine own_Go.st (fun _ kt => XS.lstore X0.here hx rfl (hb hby at_20) rfl (l' := #[.val (.int p0), .val (.int p1), .val (.int p2), .val (.int p3), .val (.int p4), .val (.int (1 : Int32)), .val (.long (1 : Int64)), .second, .unset, .unset, .unset, .unset, .unset, .unset, .unset]) rfl kt) ?_
    show own_Go p e below _ (s₁.setTop (mkF m 22 #[.val (.int p0), .val (.int p1), .val (.int p2), .val (.int p3), .val (.int p4), .val (.int (1 : Int32)), .val (.long (1 : Int64)), .second, .unset, .unset, .unset, .unset, .unset, .unset, .unset] []))
    refine own_Go.st (fun _ kt => XS.iload X0.here hx rfl (hb hby at_22) rfl kt) ?_
    show own_Go p e below _ (s₁.setTop (mkF m 24 #[.val (.int p0), .val (.int p1), .val (.int p2), .val (.int p3), .val (.int p4), .val (.int (1 : Int32)), .val (.long (1 : Int64)), .second, .unset, .unset, .unset, .unset, .unset, .unset, .unset] [(.int (1 : Int32))]))
    obtain ⟨T1, h1, k1, X1, e1, E1, A1, st1⟩ := newP X0 hx hZ (hw _ (List.mem_of_getElem? (i := 0) rfl)) e0 (g := (mkF m 24 #[.val (.int p0), .val (.int p1), .val (.int p2), .val (.int p3), .val (.int p4), .val (.int (1 : Int32)), .val (.long (1 : Int64)), .second, .unset, .unset, .unset, .unset, .unset, .unset, .unset] [(.int (1 : Int32))])) rfl (hb hby at_24) rfl (by decide) (cap := 4) (by decide) (by decide) (by decide) (by decide)
    obtain ⟨r, g1⟩ : ∃ z, z = Array.size h0 := ⟨_, rfl⟩
    rw [← g1] at A1 st1
    refine own_Go.st st1 ?_
    have n0_r : n0 ≤ r := Nat.le_trans Z0 (Nat.le_of_eq g1.symm)
    have zz2 : n0 ≤ Array.size h1 := Nat.le_trans Z0 E1.1
    show own_Go p e below _ (T1.setTop (mkF m 26 #[.val (.int p0), .val (.int p1), .val (.int p2), .val (.int p3), .val (.int p4), .val (.int (1 : Int32)), .val (.long (1 : Int64)), .second, .unset, .unset, .unset, .unset, .unset, .unset, .unset] [(.ref r)]))
    have a0r := own_Ar.new A1 (n := 1) (by decide)
    refine own_Go.st (fun _ kt => XS.astore X1.here hx rfl (hb hby at_26) rfl rfl (l' := #[.val (.int p0), .val (.int p1), .val (.int p2), .val (.int p3), .val (.int p4), .val (.int (1 : Int32)), .val (.long (1 : Int64)), .second, .val (.ref r), .unset, .unset, .unset, .unset, .unset, .unset]) rfl kt) ?_
    show own_Go p e below _ (T1.setTop (mkF m 28 #[.val (.int p0), .val (.int p1), .val (.int p2), .val (.int p3), .val (.int p4), .val (.int (1 : Int32)), .val (.long (1 : Int64)), .second, .val (.ref r), .unset, .unset, .unset, .unset, .unset, .unset] []))
    refine own_Go.st (fun _ kt => XS.aload X1.here hx rfl (hb hby at_28) rfl rfl kt) ?_
    show own_Go p e below _ (T1.setTop (mkF m 30 #[.val (.int p0), .val (.int p1), .val (.int p2), .val (.int p3), .val (.int p4), .val (.int (1 : Int32)), .val (.long (1 : Int64)), .second, .val (.ref r), .unset, .unset, .unset, .unset, .unset, .unset] [(.ref r)]))
    refine own_Go.st (fun _ kt => XS.iconst X1.here hx rfl (hb hby at_30) kt) ?_
    show own_Go p e below _ (T1.setTop (mkF m 31 #[.val (.int p0), .val (.int p1), .val (.int p2), .val (.int p3), .val (.int p4), .val (.int (1 : Int32)), .val (.long (1 : Int64)), .second, .val (.ref r), .unset, .unset, .unset, .unset, .unset, .unset] [(.int (0 : Int32)), (.ref r)]))
    refine own_Go.st (fun _ kt => XS.lload X1.here hx rfl (hb hby at_31) rfl kt) ?_
    show own_Go p e below _ (T1.setTop (mkF m 33 #[.val (.int p0), .val (.int p1), .val (.int p2), .val (.int p3), .val (.int p4), .val (.int (1 : Int32)), .val (.long (1 : Int64)), .second, .val (.ref r), .unset, .unset, .unset, .unset, .unset, .unset] [(.long (1 : Int64)), (.int (0 : Int32)), (.ref r)]))
    refine own_Go.st (fun _ kt => XS.iloadN X1.here hx rfl (hb hby at_33) rfl kt) ?_
    show own_Go p e below _ (T1.setTop (mkF m 34 #[.val (.int p0), .val (.int p1), .val (.int p2), .val (.int p3), .val (.int p4), .val (.int (1 : Int32)), .val (.long (1 : Int64)), .second, .val (.ref r), .unset, .unset, .unset, .unset, .unset, .unset] [(.int p1), (.long (1 : Int64)), (.int (0 : Int32)), (.ref r)]))
    refine own_Go.st (fun _ kt => XS.i2l X1.here hx rfl (hb hby at_34) rfl kt) ?_
    show own_Go p e below _ (T1.setTop (mkF m 35 #[.val (.int p0), .val (.int p1), .val (.int p2), .val (.int p3), .val (.int p4), .val (.int (1 : Int32)), .val (.long (1 : Int64)), .second, .val (.ref r), .unset, .unset, .unset, .unset, .unset, .unset] [(.long (p1.toInt64)), (.long (1 : Int64)), (.int (0 : Int32)), (.ref r)]))
    refine own_Go.st (fun _ kt => XS.lmul X1.here hx rfl (hb hby at_35) rfl kt) ?_
    show own_Go p e below _ (T1.setTop (mkF m 36 #[.val (.int p0), .val (.int p1), .val (.int p2), .val (.int p3), .val (.int p4), .val (.int (1 : Int32)), .val (.long (1 : Int64)), .second, .val (.ref r), .unset, .unset, .unset, .unset, .unset, .unset] [(.long ((1 : Int64) * (p1.toInt64))), (.int (0 : Int32)), (.ref r)]))
    refine own_Go.st (fun _ kt => XS.l2dS X1.here hx rfl (hb hby at_36) rfl rfl kt) ?_
    show own_Go p e below _ (T1.setTop (mkF m 37 #[.val (.int p0), .val (.int p1), .val (.int p2), .val (.int p3), .val (.int p4), .val (.int (1 : Int32)), .val (.long (1 : Int64)), .second, .val (.ref r), .unset, .unset, .unset, .unset, .unset, .unset] [(.double (FP.l2d ((1 : Int64) * (p1.toInt64)))), (.int (0 : Int32)), (.ref r)]))
    obtain ⟨T3, h3, X3, e3, W3, st3⟩ := own_dst X1 hx hZ e1 a0r (i := 0) (by decide) (by decide) (g := (mkF m 37 #[.val (.int p0), .val (.int p1), .val (.int p2), .val (.int p3), .val (.int p4), .val (.int (1 : Int32)), .val (.long (1 : Int64)), .second, .val (.ref r), .unset, .unset, .unset, .unset, .unset, .unset] [(.double (FP.l2d ((1 : Int64) * (p1.toInt64)))), (.int (0 : Int32)), (.ref r)])) rfl rfl (hb hby at_37)
    refine own_Go.st st3 ?_
    have N3 := Fr.snoc X3 N0 n0_r
    have a3 := own_Ar.set a0r W3
    have zz4 : n0 ≤ Array.size h3 := Nat.le_trans zz2 (Nat.le_of_eq (Wr.size W3).symm)
    show own_Go p e below _ (T3.setTop (mkF m 38 #[.val (.int p0), .val (.int p1), .val (.int p2), .val (.int p3), .val (.int p4), .val (.int (1 : Int32)), .val (.long (1 : Int64)), .second, .val (.ref r), .unset, .unset, .unset, .unset, .unset, .unset] []))
    refine own_Go.st (fun _ kt => XS.iload X3.here hx rfl (hb hby at_38) rfl kt) ?_
    show own_Go p e below _ (T3.setTop (mkF m 40 #[.val (.int p0), .val (.int p1), .val (.int p2), .val (.int p3), .val (.int p4), .val (.int (1 : Int32)), .val (.long (1 : Int64)), .second, .val (.ref r), .unset, .unset, .unset, .unset, .unset, .unset] [(.int (1 : Int32))]))
    refine own_Go.st (fun _ kt => XS.iconst X3.here hx rfl (hb hby at_40) kt) ?_
    show own_Go p e below _ (T3.setTop (mkF m 41 #[.val (.int p0), .val (.int p1), .val (.int p2), .val (.int p3), .val (.int p4), .val (.int (1 : Int32)), .val (.long (1 : Int64)), .second, .val (.ref r), .unset, .unset, .unset, .unset, .unset, .unset] [(.int (1 : Int32)), (.int (1 : Int32))]))
    refine own_Go.st (fun _ kt => XS.icmpYes X3.here hx rfl (pc0 := 41) (pc' := 54) rfl (hb hby at_41) rfl (flt (by decide)).2.2.2 (by decide) (by decide) kt) ?_
    show own_Go p e below _ (T3.setTop (mkF m 54 #[.val (.int p0), .val (.int p1), .val (.int p2), .val (.int p3), .val (.int p4), .val (.int (1 : Int32)), .val (.long (1 : Int64)), .second, .val (.ref r), .unset, .unset, .unset, .unset, .unset, .unset] []))
    refine own_Go.st (fun _ kt => XS.iload X3.here hx rfl (hb hby at_54) rfl kt) ?_
    show own_Go p e below _ (T3.setTop (mkF m 56 #[.val (.int p0), .val (.int p1), .val (.int p2), .val (.int p3), .val (.int p4), .val (.int (1 : Int32)), .val (.long (1 : Int64)), .second, .val (.ref r), .unset, .unset, .unset, .unset, .unset, .unset] [(.int (1 : Int32))]))
    refine own_Go.st (fun _ kt => XS.iconst X3.here hx rfl (hb hby at_56) kt) ?_
    show own_Go p e below _ (T3.setTop (mkF m 57 #[.val (.int p0), .val (.int p1), .val (.int p2), .val (.int p3), .val (.int p4), .val (.int (1 : Int32)), .val (.long (1 : Int64)), .second, .val (.ref r), .unset, .unset, .unset, .unset, .unset, .unset] [(.int (2 : Int32)), (.int (1 : Int32))]))
    refine own_Go.st (fun _ kt => XS.icmpYes X3.here hx rfl (pc0 := 57) (pc' := 70) rfl (hb hby at_57) rfl (flt (by decide)).2.2.2 (by decide) (by decide) kt) ?_
    show own_Go p e below _ (T3.setTop (mkF m 70 #[.val (.int p0), .val (.int p1), .val (.int p2), .val (.int p3), .val (.int p4), .val (.int (1 : Int32)), .val (.long (1 : Int64)), .second, .val (.ref r), .unset, .unset, .unset, .unset, .unset, .unset] []))
    refine own_Go.st (fun _ kt => XS.iload X3.here hx rfl (hb hby at_70) rfl kt) ?_
    show own_Go p e below _ (T3.setTop (mkF m 72 #[.val (.int p0), .val (.int p1), .val (.int p2), .val (.int p3), .val (.int p4), .val (.int (1 : Int32)), .val (.long (1 : Int64)), .second, .val (.ref r), .unset, .unset, .unset, .unset, .unset, .unset] [(.int (1 : Int32))]))
    refine own_Go.st (fun _ kt => XS.iconst X3.here hx rfl (hb hby at_72) kt) ?_
    show own_Go p e below _ (T3.setTop (mkF m 73 #[.val (.int p0), .val (.int p1), .val (.int p2), .val (.int p3), .val (.int p4), .val (.int (1 : Int32)), .val (.long (1 : Int64)), .second, .val (.ref r), .unset, .unset, .unset, .unset, .unset, .unset] [(.int (3 : Int32)), (.int (1 : Int32))]))
    refine own_Go.st (fun _ kt => XS.icmpYes X3.here hx rfl (pc0 := 73) (pc' := 87) rfl (hb hby at_73) rfl (flt (by decide)).2.2.2 (by decide) (by decide) kt) ?_
    show own_Go p e below _ (T3.setTop (mkF m 87 #[.val (.int p0), .val (.int p1), .val (.int p2), .val (.int p3), .val (.int p4), .val (.int (1 : Int32)), .val (.long (1 : Int64)), .second, .val (.ref r), .unset, .unset, .unset, .unset, .unset, .unset] []))
    refine own_Go.st (fun _ kt => XS.iloadN X3.here hx rfl (hb hby at_87) rfl kt) ?_
    show own_Go p e below _ (T3.setTop (mkF m 88 #[.val (.int p0), .val (.int p1), .val (.int p2), .val (.int p3), .val (.int p4), .val (.int (1 : Int32)), .val (.long (1 : Int64)), .second, .val (.ref r), .unset, .unset, .unset, .unset, .unset, .unset] [(.int p1)]))
    refine own_Go.st (fun _ kt => XS.i2l X3.here hx rfl (hb hby at_88) rfl kt) ?_
    show own_Go p e below _ (T3.setTop (mkF m 89 #[.val (.int p0), .val (.int p1), .val (.int p2), .val (.int p3), .val (.int p4), .val (.int (1 : Int32)), .val (.long (1 : Int64)), .second, .val (.ref r), .unset, .unset, .unset, .unset, .unset, .unset] [(.long (p1.toInt64))]))
    refine own_Go.st (fun _ kt => XS.lstore X3.here hx rfl (hb hby at_89) rfl (l' := #[.val (.int p0), .val (.int p1), .val (.int p2), .val (.int p3), .val (.int p4), .val (.int (1 : Int32)), .val (.long (1 : Int64)), .second, .val (.ref r), .val (.long (p1.toInt64)), .second, .unset, .unset, .unset, .unset]) rfl kt) ?_
    show own_Go p e below _ (T3.setTop (mkF m 91 #[.val (.int p0), .val (.int p1), .val (.int p2), .val (.int p3), .val (.int p4), .val (.int (1 : Int32)), .val (.long (1 : Int64)), .second, .val (.ref r), .val (.long (p1.toInt64)), .second, .unset, .unset, .unset, .unset] []))
    refine own_Go.st (fun _ kt => XS.iload X3.here hx rfl (hb hby at_91) rfl kt) ?_
    show own_Go p e below _ (T3.setTop (mkF m 93 #[.val (.int p0), .val (.int p1), .val (.int p2), .val (.int p3), .val (.int p4), .val (.int (1 : Int32)), .val (.long (1 : Int64)), .second, .val (.ref r), .val (.long (p1.toInt64)), .second, .unset, .unset, .unset, .unset] [(.int (1 : Int32))]))
    refine own_Go.st (fun _ kt => XS.iconst X3.here hx rfl (hb hby at_93) kt) ?_
    show own_Go p e below _ (T3.setTop (mkF m 94 #[.val (.int p0), .val (.int p1), .val (.int p2), .val (.int p3), .val (.int p4), .val (.int (1 : Int32)), .val (.long (1 : Int64)), .second, .val (.ref r), .val (.long (p1.toInt64)), .second, .unset, .unset, .unset, .unset] [(.int (1 : Int32)), (.int (1 : Int32))]))
    refine own_Go.st (fun _ kt => XS.icmpYes X3.here hx rfl (pc0 := 94) (pc' := 104) rfl (hb hby at_94) rfl (flt (by decide)).2.2.2 (by decide) (by decide) kt) ?_
    show own_Go p e below _ (T3.setTop (mkF m 104 #[.val (.int p0), .val (.int p1), .val (.int p2), .val (.int p3), .val (.int p4), .val (.int (1 : Int32)), .val (.long (1 : Int64)), .second, .val (.ref r), .val (.long (p1.toInt64)), .second, .unset, .unset, .unset, .unset] []))
    refine own_Go.st (fun _ kt => XS.iload X3.here hx rfl (hb hby at_104) rfl kt) ?_
    show own_Go p e below _ (T3.setTop (mkF m 106 #[.val (.int p0), .val (.int p1), .val (.int p2), .val (.int p3), .val (.int p4), .val (.int (1 : Int32)), .val (.long (1 : Int64)), .second, .val (.ref r), .val (.long (p1.toInt64)), .second, .unset, .unset, .unset, .unset] [(.int (1 : Int32))]))
    refine own_Go.st (fun _ kt => XS.iconst X3.here hx rfl (hb hby at_106) kt) ?_
    show own_Go p e below _ (T3.setTop (mkF m 107 #[.val (.int p0), .val (.int p1), .val (.int p2), .val (.int p3), .val (.int p4), .val (.int (1 : Int32)), .val (.long (1 : Int64)), .second, .val (.ref r), .val (.long (p1.toInt64)), .second, .unset, .unset, .unset, .unset] [(.int (2 : Int32)), (.int (1 : Int32))]))
    refine own_Go.st (fun _ kt => XS.icmpYes X3.here hx rfl (pc0 := 107) (pc' := 117) rfl (hb hby at_107) rfl (flt (by decide)).2.2.2 (by decide) (by decide) kt) ?_
    show own_Go p e below _ (T3.setTop (mkF m 117 #[.val (.int p0), .val (.int p1), .val (.int p2), .val (.int p3), .val (.int p4), .val (.int (1 : Int32)), .val (.long (1 : Int64)), .second, .val (.ref r), .val (.long (p1.toInt64)), .second, .unset, .unset, .unset, .unset] []))
    refine own_Go.st (fun _ kt => XS.iload X3.here hx rfl (hb hby at_117) rfl kt) ?_
    show own_Go p e below _ (T3.setTop (mkF m 119 #[.val (.int p0), .val (.int p1), .val (.int p2), .val (.int p3), .val (.int p4), .val (.int (1 : Int32)), .val (.long (1 : Int64)), .second, .val (.ref r), .val (.long (p1.toInt64)), .second, .unset, .unset, .unset, .unset] [(.int (1 : Int32))]))
    refine own_Go.st (fun _ kt => XS.iconst X3.here hx rfl (hb hby at_119) kt) ?_
    show own_Go p e below _ (T3.setTop (mkF m 120 #[.val (.int p0), .val (.int p1), .val (.int p2), .val (.int p3), .val (.int p4), .val (.int (1 : Int32)), .val (.long (1 : Int64)), .second, .val (.ref r), .val (.long (p1.toInt64)), .second, .unset, .unset, .unset, .unset] [(.int (3 : Int32)), (.int (1 : Int32))]))
    refine own_Go.st (fun _ kt => XS.icmpYes X3.here hx rfl (pc0 := 120) (pc' := 131) rfl (hb hby at_120) rfl (flt (by decide)).2.2.2 (by decide) (by decide) kt) ?_
    show own_Go p e below _ (T3.setTop (mkF m 131 #[.val (.int p0), .val (.int p1), .val (.int p2), .val (.int p3), .val (.int p4), .val (.int (1 : Int32)), .val (.long (1 : Int64)), .second, .val (.ref r), .val (.long (p1.toInt64)), .second, .unset, .unset, .unset, .unset] []))
    refine own_Go.st (fun _ kt => XS.iload X3.here hx rfl (hb hby at_131) rfl kt) ?_
    show own_Go p e below _ (T3.setTop (mkF m 133 #[.val (.int p0), .val (.int p1), .val (.int p2), .val (.int p3), .val (.int p4), .val (.int (1 : Int32)), .val (.long (1 : Int64)), .second, .val (.ref r), .val (.long (p1.toInt64)), .second, .unset, .unset, .unset, .unset] [(.int (1 : Int32))]))
    refine own_Go.st (fun _ kt => XS.iconst X3.here hx rfl (hb hby at_133) kt) ?_
    show own_Go p e below _ (T3.setTop (mkF m 134 #[.val (.int p0), .val (.int p1), .val (.int p2), .val (.int p3), .val (.int p4), .val (.int (1 : Int32)), .val (.long (1 : Int64)), .second, .val (.ref r), .val (.long (p1.toInt64)), .second, .unset, .unset, .unset, .unset] [(.int (3 : Int32)), (.int (1 : Int32))]))
    refine own_Go.st (fun _ kt => XS.icmpYes X3.here hx rfl (pc0 := 134) (pc' := 143) rfl (hb hby at_134) rfl (feq (by decide)).2 (by decide) (by decide) kt) ?_
    show own_Go p e below _ (T3.setTop (mkF m 143 #[.val (.int p0), .val (.int p1), .val (.int p2), .val (.int p3), .val (.int p4), .val (.int (1 : Int32)), .val (.long (1 : Int64)), .second, .val (.ref r), .val (.long (p1.toInt64)), .second, .unset, .unset, .unset, .unset] []))
    refine own_Go.st (fun _ kt => XS.lload X3.here hx rfl (hb hby at_143) rfl kt) ?_
    show own_Go p e below _ (T3.setTop (mkF m 145 #[.val (.int p0), .val (.int p1), .val (.int p2), .val (.int p3), .val (.int p4), .val (.int (1 : Int32)), .val (.long (1 : Int64)), .second, .val (.ref r), .val (.long (p1.toInt64)), .second, .unset, .unset, .unset, .unset] [(.long (p1.toInt64))]))
    refine own_Go.st (fun _ kt => XS.l2dS X3.here hx rfl (hb hby at_145) rfl rfl kt) ?_
    show own_Go p e below _ (T3.setTop (mkF m 146 #[.val (.int p0), .val (.int p1), .val (.int p2), .val (.int p3), .val (.int p4), .val (.int (1 : Int32)), .val (.long (1 : Int64)), .second, .val (.ref r), .val (.long (p1.toInt64)), .second, .unset, .unset, .unset, .unset] [(.double (FP.l2d (p1.toInt64)))]))
    refine own_Go.st (fun _ kt => XS.iload X3.here hx rfl (hb hby at_146) rfl kt) ?_
    show own_Go p e below _ (T3.setTop (mkF m 148 #[.val (.int p0), .val (.int p1), .val (.int p2), .val (.int p3), .val (.int p4), .val (.int (1 : Int32)), .val (.long (1 : Int64)), .second, .val (.ref r), .val (.long (p1.toInt64)), .second, .unset, .unset, .unset, .unset] [(.int (1 : Int32)), (.double (FP.l2d (p1.toInt64)))]))
    refine own_Go.st (fun _ kt => XS.i2dS X3.here hx rfl (hb hby at_148) rfl rfl kt) ?_
    show own_Go p e below _ (T3.setTop (mkF m 149 #[.val (.int p0), .val (.int p1), .val (.int p2), .val (.int p3), .val (.int p4), .val (.int (1 : Int32)), .val (.long (1 : Int64)), .second, .val (.ref r), .val (.long (p1.toInt64)), .second, .unset, .unset, .unset, .unset] [(.double (FP.i2d (1 : Int32))), (.double (FP.l2d (p1.toInt64)))]))
    have ar := own_Ar.congr (f' := fun j => .double (own_pick (FP.l2d ((1 : Int64) * p1.toInt64)) (FP.l2d ((1 : Int64) * p2.toInt64)) (FP.l2d ((1 : Int64) * p3.toInt64)) (FP.l2d ((1 : Int64) * p4.toInt64)) j)) a3 (fun j hj => by
      have : j = 0 := by omega
      rcases this with rfl <;> rfl)
    have hS : own_sum (fun j => (own_pick p1 p2 p3 p4 j).toInt) 1 = p1.toInt := by simp [own_sum, own_pick]
    have q1 := own_abs32 p1
    have q2 := own_abs32 p2
    have q3 := own_abs32 p3
    have q4 := own_abs32 p4
    have t1 : p1.toInt64.toInt = p1.toInt := c_i2l p1
    have hwx := own_whole (z := p1.toInt64) (xn := 1) (K := 1074) t1 (by omega) (n := 1) (by decide) (by decide) (by decide) own_e1
    refine own_Go.st (fun _ kt => XS.ddivS X3.here hx rfl (hb hby at_149) rfl (Jvm.FP.Core.own_D.n64 hwx) rfl kt) ?_
    show own_Go p e below _ (T3.setTop (mkF m 150 #[.val (.int p0), .val (.int p1), .val (.int p2), .val (.int p3), .val (.int p4), .val (.int (1 : Int32)), .val (.long (1 : Int64)), .second, .val (.ref r), .val (.long (p1.toInt64)), .second, .unset, .unset, .unset, .unset] [(.double (FP.ddiv (FP.l2d (p1.toInt64)) (FP.i2d (1 : Int32))))]))
    refine own_Go.st (fun _ kt => XS.dstore X3.here hx rfl (hb hby at_150) rfl (l' := #[.val (.int p0), .val (.int p1), .val (.int p2), .val (.int p3), .val (.int p4), .val (.int (1 : Int32)), .val (.long (1 : Int64)), .second, .val (.ref r), .val (.long (p1.toInt64)), .second, .val (.double (FP.ddiv (FP.l2d (p1.toInt64)) (FP.i2d (1 : Int32)))), .second, .unset, .unset]) rfl kt) ?_
    show own_Go p e below _ (T3.setTop (mkF m 152 #[.val (.int p0), .val (.int p1), .val (.int p2), .val (.int p3), .val (.int p4), .val (.int (1 : Int32)), .val (.long (1 : Int64)), .second, .val (.ref r), .val (.long (p1.toInt64)), .second, .val (.double (FP.ddiv (FP.l2d (p1.toInt64)) (FP.i2d (1 : Int32)))), .second, .unset, .unset] []))
    refine own_Go.st (fun _ kt => XS.aload X3.here hx rfl (hb hby at_152) rfl rfl kt) ?_
    show own_Go p e below _ (T3.setTop (mkF m 154 #[.val (.int p0), .val (.int p1), .val (.int p2), .val (.int p3), .val (.int p4), .val (.int (1 : Int32)), .val (.long (1 : Int64)), .second, .val (.ref r), .val (.long (p1.toInt64)), .second, .val (.double (FP.ddiv (FP.l2d (p1.toInt64)) (FP.i2d (1 : Int32)))), .second, .unset, .unset] [(.ref r)]))
    obtain ⟨_, _, ⟨T5, L5, k5, n5⟩, -, X5, ⟨Lc5, hQ5, l5, y5, z5⟩, st5⟩ := Jvm.LawKit.callS X3 hx (y := (⟨"com/example/wallingford/wallingford/statistics/SampleStatistics", "mean", "([D)D"⟩ : MethodName)) hown (mvT hZ (hw _ (List.mem_of_getElem? (i := 1) rfl))) (mvT hZ (hw _ (List.mem_of_getElem? (i := 2) rfl))) (mvT hZ (hw _ (List.mem_of_getElem? (i := 3) rfl))) (mvT hZ (hw _ (List.mem_of_getElem? (i := 4) rfl))) (by decide) (backOf (W := 0) (own_mean l Z a0 hw [] r (1 : Int32) 1 1074 (own_pick (FP.l2d ((1 : Int64) * p1.toInt64)) (FP.l2d ((1 : Int64) * p2.toInt64)) (FP.l2d ((1 : Int64) * p3.toInt64)) (FP.l2d ((1 : Int64) * p4.toInt64))) (fun j => (own_pick p1 p2 p3 p4 j).toInt) h3 n0 zz4 ar (by decide) (by decide) (by decide) (fun j => own_abs32 _) (fun j hj => by
      have : j = 0 := by omega
      rcases this with rfl <;> exact own_share (k := (1 : Int64)) (xn := 1) (n := 1) (m := 1) (by decide) (by decide) (by decide) (by decide) (by decide) own_e1 _)) hZ (hw _ (List.mem_of_getElem? (i := 4) rfl)) (hw _ (List.mem_of_getElem? (i := 3) rfl)) (by decide) (by decide)) (g := (mkF m 154 #[.val (.int p0), .val (.int p1), .val (.int p2), .val (.int p3), .val (.int p4), .val (.int (1 : Int32)), .val (.long (1 : Int64)), .second, .val (.ref r), .val (.long (p1.toInt64)), .second, .val (.double (FP.ddiv (FP.l2d (p1.toInt64)) (FP.i2d (1 : Int32)))), .second, .unset, .unset] [(.ref r)])) rfl (by rw [hml]; rfl) (argsL := [(.ref r)]) (rest := []) (lenOf own_pd0 rfl) rfl (by show 2 * 0 + _ ≤ _; exact Nat.le_of_eq rfl) (hb hby at_154) (fun _ _ => ⟨rfl, e3, (by decide : 1 + 0 ≤ _), (by decide : 4 + 0 ≤ _)⟩)
    dsimp only [Pt.U, Pt.locs, Pt.cells, Pt.slots] at X5 l5 y5 z5 st5 hQ5
    subst l5 y5 z5
    obtain ⟨d, rfl, N5q, hd5, hh5⟩ := hQ5
    have N5 := Fr.app N3 N5q
    refine own_Go.st (fun _ kt => st5 _ kt) ?_
    show own_Go p e below _ (T5.setTop (mkF m 157 #[.val (.int p0), .val (.int p1), .val (.int p2), .val (.int p3), .val (.int p4), .val (.int (1 : Int32)), .val (.long (1 : Int64)), .second, .val (.ref r), .val (.long (p1.toInt64)), .second, .val (.double (FP.ddiv (FP.l2d (p1.toInt64)) (FP.i2d (1 : Int32)))), .second, .unset, .unset] [(.double d)]))
    rw [hS] at hd5
    refine own_Go.st (fun _ kt => XS.dstore X5.here hx rfl (hb hby at_157) rfl (l' := #[.val (.int p0), .val (.int p1), .val (.int p2), .val (.int p3), .val (.int p4), .val (.int (1 : Int32)), .val (.long (1 : Int64)), .second, .val (.ref r), .val (.long (p1.toInt64)), .second, .val (.double (FP.ddiv (FP.l2d (p1.toInt64)) (FP.i2d (1 : Int32)))), .second, .val (.double d), .second]) rfl kt) ?_
    show own_Go p e below _ (T5.setTop (mkF m 159 #[.val (.int p0), .val (.int p1), .val (.int p2), .val (.int p3), .val (.int p4), .val (.int (1 : Int32)), .val (.long (1 : Int64)), .second, .val (.ref r), .val (.long (p1.toInt64)), .second, .val (.double (FP.ddiv (FP.l2d (p1.toInt64)) (FP.i2d (1 : Int32)))), .second, .val (.double d), .second] []))
    refine own_Go.st (fun _ kt => XS.dload X5.here hx rfl (hb hby at_159) rfl kt) ?_
    show own_Go p e below _ (T5.setTop (mkF m 161 #[.val (.int p0), .val (.int p1), .val (.int p2), .val (.int p3), .val (.int p4), .val (.int (1 : Int32)), .val (.long (1 : Int64)), .second, .val (.ref r), .val (.long (p1.toInt64)), .second, .val (.double (FP.ddiv (FP.l2d (p1.toInt64)) (FP.i2d (1 : Int32)))), .second, .val (.double d), .second] [(.double d)]))
    refine own_Go.st (fun _ kt => XS.dload X5.here hx rfl (hb hby at_161) rfl kt) ?_
    show own_Go p e below _ (T5.setTop (mkF m 163 #[.val (.int p0), .val (.int p1), .val (.int p2), .val (.int p3), .val (.int p4), .val (.int (1 : Int32)), .val (.long (1 : Int64)), .second, .val (.ref r), .val (.long (p1.toInt64)), .second, .val (.double (FP.ddiv (FP.l2d (p1.toInt64)) (FP.i2d (1 : Int32)))), .second, .val (.double d), .second] [(.double (FP.ddiv (FP.l2d (p1.toInt64)) (FP.i2d (1 : Int32)))), (.double d)]))
    refine own_Go.st (fun _ kt => XS.dcmpS X5.here hx rfl (hb hby at_163) rfl (own_deq hd5 hwx _) kt) ?_
    show own_Go p e below _ (T5.setTop (mkF m 164 #[.val (.int p0), .val (.int p1), .val (.int p2), .val (.int p3), .val (.int p4), .val (.int (1 : Int32)), .val (.long (1 : Int64)), .second, .val (.ref r), .val (.long (p1.toInt64)), .second, .val (.double (FP.ddiv (FP.l2d (p1.toInt64)) (FP.i2d (1 : Int32)))), .second, .val (.double d), .second] [(.int (0 : Int32))]))
    refine own_Go.st (fun _ kt => XS.ifNo X5.here hx rfl (hb hby at_164) rfl ((if0 _ _).trans (teq rfl).2) kt) ?_
    show own_Go p e below _ (T5.setTop (mkF m 167 #[.val (.int p0), .val (.int p1), .val (.int p2), .val (.int p3), .val (.int p4), .val (.int (1 : Int32)), .val (.long (1 : Int64)), .second, .val (.ref r), .val (.long (p1.toInt64)), .second, .val (.double (FP.ddiv (FP.l2d (p1.toInt64)) (FP.i2d (1 : Int32)))), .second, .val (.double d), .second] []))
    refine own_Go.st (fun _ kt => XS.iconst X5.here hx rfl (hb hby at_167) kt) ?_
    show own_Go p e below _ (T5.setTop (mkF m 168 #[.val (.int p0), .val (.int p1), .val (.int p2), .val (.int p3), .val (.int p4), .val (.int (1 : Int32)), .val (.long (1 : Int64)), .second, .val (.ref r), .val (.long (p1.toInt64)), .second, .val (.double (FP.ddiv (FP.l2d (p1.toInt64)) (FP.i2d (1 : Int32)))), .second, .val (.double d), .second] [(.int (1 : Int32))]))
    refine own_Go.st (fun _ kt => XS.goto X5.here hx rfl (pc0 := 168) (pc' := 172) rfl (hb hby at_168) (by decide) (by decide) kt) ?_
    show own_Go p e below _ (T5.setTop (mkF m 172 #[.val (.int p0), .val (.int p1), .val (.int p2), .val (.int p3), .val (.int p4), .val (.int (1 : Int32)), .val (.long (1 : Int64)), .second, .val (.ref r), .val (.long (p1.toInt64)), .second, .val (.double (FP.ddiv (FP.l2d (p1.toInt64)) (FP.i2d (1 : Int32)))), .second, .val (.double d), .second] [(.int (1 : Int32))]))
    exact own_retZ X5 hx Bd.notSynchronized Bd.returns (Or.inr rfl) (hb hby at_172) (by decide) (by decide) ⟨rfl, N5⟩
  · show own_Go p e below _ (s₁.setTop (mkF m 5 #[.val (.int p0), .val (.int p1), .val (.int p2), .val (.int p3), .val (.int p4), .unset, .unset, .unset, .unset, .unset, .unset, .unset, .unset, .unset, .unset] [(.int (2 : Int32))]))
    refine own_Go.st (fun _ kt => XS.istore X0.here hx rfl (hb hby at_5) rfl (l' := #[.val (.int p0), .val (.int p1), .val (.int p2), .val (.int p3), .val (.int p4), .val (.int (2 : Int32)), .unset, .unset, .unset, .unset, .unset, .unset, .unset, .unset, .unset]) rfl kt) ?_
    show own_Go p e below _ (s₁.setTop (mkF m 7 #[.val (.int p0), .val (.int p1), .val (.int p2), .val (.int p3), .val (.int p4), .val (.int (2 : Int32)), .unset, .unset, .unset, .unset, .unset, .unset, .unset, .unset, .unset] []))
    refine own_Go.st (fun _ kt => XS.iload X0.here hx rfl (hb hby at_7) rfl kt) ?_
    show own_Go p e below _ (s₁.setTop (mkF m 9 #[.val (.int p0), .val (.int p1), .val (.int p2), .val (.int p3), .val (.int p4), .val (.int (2 : Int32)), .unset, .unset, .unset, .unset, .unset, .unset, .unset, .unset, .unset] [(.int (2 : Int32))]))
    refine own_Go.st (fun _ kt => XS.iconst X0.here hx rfl (hb hby at_9) kt) ?_
    show own_Go p e below _ (s₁.setTop (mkF m 10 #[.val (.int p0), .val (.int p1), .val (.int p2), .val (.int p3), .val (.int p4), .val (.int (2 : Int32)), .unset, .unset, .unset, .unset, .unset, .unset, .unset, .unset, .unset] [(.int (3 : Int32)), (.int (2 : Int32))]))
    refine own_Go.st (fun _ kt => XS.icmpYes X0.here hx rfl (pc0 := 10) (pc' := 19) rfl (hb hby at_10) rfl (feq (by decide)).2 (by decide) (by decide) kt) ?_
    show own_Go p e below _ (s₁.setTop (mkF m 19 #[.val (.int p0), .val (.int p1), .val (.int p2), .val (.int p3), .val (.int p4), .val (.int (2 : Int32)), .unset, .unset, .unset, .unset, .unset, .unset, .unset, .unset, .unset] []))
    refine own_Go.st (fun _ kt => XS.lconst X0.here hx rfl (hb hby at_19) kt) ?_
    show own_Go p e below _ (s₁.setTop (mkF m 20 #[.val (.int p0), .val (.int p1), .val (.int p2), .val (.int p3), .val (.int p4), .val (.int (2 : Int32)), .unset, .unset, .unset, .unset, .unset, .unset, .unset, .unset, .unset] [(.long (1 : Int64))]))
    refine own_Go.st (fun _ kt => XS.lstore X0.here hx rfl (hb hby at_20) rfl (l' := #[.val (.int p0), .val (.int p1), .val (.int p2), .val (.int p3), .val (.int p4), .val (.int (2 : Int32)), .val (.long (1 : Int64)), .second, .unset, .unset, .unset, .unset, .unset, .unset, .unset]) rfl kt) ?_
    show own_Go p e below _ (s₁.setTop (mkF m 22 #[.val (.int p0), .val (.int p1), .val (.int p2), .val (.int p3), .val (.int p4), .val (.int (2 : Int32)), .val (.long (1 : Int64)), .second, .unset, .unset, .unset, .unset, .unset, .unset, .unset] []))
    refine own_Go.st (fun _ kt => XS.iload X0.here hx rfl (hb hby at_22) rfl kt) ?_
    show own_Go p e below _ (s₁.setTop (mkF m 24 #[.val (.int p0), .val (.int p1), .val (.int p2), .val (.int p3), .val (.int p4), .val (.int (2 : Int32)), .val (.long (1 : Int64)), .second, .unset, .unset, .unset, .unset, .unset, .unset, .unset] [(.int (2 : Int32))]))
    obtain ⟨T6, h6, k6, X6, e6, E6, A6, st6⟩ := newP X0 hx hZ (hw _ (List.mem_of_getElem? (i := 0) rfl)) e0 (g := (mkF m 24 #[.val (.int p0), .val (.int p1), .val (.int p2), .val (.int p3), .val (.int p4), .val (.int (2 : Int32)), .val (.long (1 : Int64)), .second, .unset, .unset, .unset, .unset, .unset, .unset, .unset] [(.int (2 : Int32))])) rfl (hb hby at_24) rfl (by decide) (cap := 4) (by decide) (by decide) (by decide) (by decide)
    obtain ⟨r, g6⟩ : ∃ z, z = Array.size h0 := ⟨_, rfl⟩
    rw [← g6] at A6 st6
    refine own_Go.st st6 ?_
    have n0_r : n0 ≤ r := Nat.le_trans Z0 (Nat.le_of_eq g6.symm)
    have zz7 : n0 ≤ Array.size h6 := Nat.le_trans Z0 E6.1
    show own_Go p e below _ (T6.setTop (mkF m 26 #[.val (.int p0), .val (.int p1), .val (.int p2), .val (.int p3), .val (.int p4), .val (.int (2 : Int32)), .val (.long (1 : Int64)), .second, .unset, .unset, .unset, .unset, .unset, .unset, .unset] [(.ref r)]))
    have a0r := own_Ar.new A6 (n := 2) (by decide)
    refine own_Go.st (fun _ kt => XS.astore X6.here hx rfl (hb hby at_26) rfl rfl (l' := #[.val (.int p0), .val (.int p1), .val (.int p2), .val (.int p3), .val (.int p4), .val (.int (2 : Int32)), .val (.long (1 : Int64)), .second, .val (.ref r), .unset, .unset, .unset, .unset, .unset, .unset]) rfl kt) ?_
    show own_Go p e below _ (T6.setTop (mkF m 28 #[.val (.int p0), .val (.int p1), .val (.int p2), .val (.int p3), .val (.int p4), .val (.int (2 : Int32)), .val (.long (1 : Int64)), .second, .val (.ref r), .unset, .unset, .unset, .unset, .unset, .unset] []))
    refine own_Go.st (fun _ kt => XS.aload X6.here hx rfl (hb hby at_28) rfl rfl kt) ?_
    show own_Go p e below _ (T6.setTop (mkF m 30 #[.val (.int p0), .val (.int p1), .val (.int p2), .val (.int p3), .val (.int p4), .val (.int (2 : Int32)), .val (.long (1 : Int64)), .second, .val (.ref r), .unset, .unset, .unset, .unset, .unset, .unset] [(.ref r)]))
    refine own_Go.st (fun _ kt => XS.iconst X6.here hx rfl (hb hby at_30) kt) ?_
    show own_Go p e below _ (T6.setTop (mkF m 31 #[.val (.int p0), .val (.int p1), .val (.int p2), .val (.int p3), .val (.int p4), .val (.int (2 : Int32)), .val (.long (1 : Int64)), .second, .val (.ref r), .unset, .unset, .unset, .unset, .unset, .unset] [(.int (0 : Int32)), (.ref r)]))
    refine own_Go.st (fun _ kt => XS.lload X6.here hx rfl (hb hby at_31) rfl kt) ?_
    show own_Go p e below _ (T6.setTop (mkF m 33 #[.val (.int p0), .val (.int p1), .val (.int p2), .val (.int p3), .val (.int p4), .val (.int (2 : Int32)), .val (.long (1 : Int64)), .second, .val (.ref r), .unset, .unset, .unset, .unset, .unset, .unset] [(.long (1 : Int64)), (.int (0 : Int32)), (.ref r)]))
    refine own_Go.st (fun _ kt => XS.iloadN X6.here hx rfl (hb hby at_33) rfl kt) ?_
    show own_Go p e below _ (T6.setTop (mkF m 34 #[.val (.int p0), .val (.int p1), .val (.int p2), .val (.int p3), .val (.int p4), .val (.int (2 : Int32)), .val (.long (1 : Int64)), .second, .val (.ref r), .unset, .unset, .unset, .unset, .unset, .unset] [(.int p1), (.long (1 : Int64)), (.int (0 : Int32)), (.ref r)]))
    refine own_Go.st (fun _ kt => XS.i2l X6.here hx rfl (hb hby at_34) rfl kt) ?_
    show own_Go p e below _ (T6.setTop (mkF m 35 #[.val (.int p0), .val (.int p1), .val (.int p2), .val (.int p3), .val (.int p4), .val (.int (2 : Int32)), .val (.long (1 : Int64)), .second, .val (.ref r), .unset, .unset, .unset, .unset, .unset, .unset] [(.long (p1.toInt64)), (.long (1 : Int64)), (.int (0 : Int32)), (.ref r)]))
    refine own_Go.st (fun _ kt => XS.lmul X6.here hx rfl (hb hby at_35) rfl kt) ?_
    show own_Go p e below _ (T6.setTop (mkF m 36 #[.val (.int p0), .val (.int p1), .val (.int p2), .val (.int p3), .val (.int p4), .val (.int (2 : Int32)), .val (.long (1 : Int64)), .second, .val (.ref r), .unset, .unset, .unset, .unset, .unset, .unset] [(.long ((1 : Int64) * (p1.toInt64))), (.int (0 : Int32)), (.ref r)]))
    refine own_Go.st (fun _ kt => XS.l2dS X6.here hx rfl (hb hby at_36) rfl rfl kt) ?_
    show own_Go p e below _ (T6.setTop (mkF m 37 #[.val (.int p0), .val (.int p1), .val (.int p2), .val (.int p3), .val (.int p4), .val (.int (2 : Int32)), .val (.long (1 : Int64)), .second, .val (.ref r), .unset, .unset, .unset, .unset, .unset, .unset] [(.double (FP.l2d ((1 : Int64) * (p1.toInt64)))), (.int (0 : Int32)), (.ref r)]))
    obtain ⟨T8, h8, X8, e8, W8, st8⟩ := own_dst X6 hx hZ e6 a0r (i := 0) (by decide) (by decide) (g := (mkF m 37 #[.val (.int p0), .val (.int p1), .val (.int p2), .val (.int p3), .val (.int p4), .val (.int (2 : Int32)), .val (.long (1 : Int64)), .second, .val (.ref r), .unset, .unset, .unset, .unset, .unset, .unset] [(.double (FP.l2d ((1 : Int64) * (p1.toInt64)))), (.int (0 : Int32)), (.ref r)])) rfl rfl (hb hby at_37)
    refine own_Go.st st8 ?_
    have N8 := Fr.snoc X8 N0 n0_r
    have a8 := own_Ar.set a0r W8
    have zz9 : n0 ≤ Array.size h8 := Nat.le_trans zz7 (Nat.le_of_eq (Wr.size W8).symm)
    show own_Go p e below _ (T8.setTop (mkF m 38 #[.val (.int p0), .val (.int p1), .val (.int p2), .val (.int p3), .val (.int p4), .val (.int (2 : Int32)), .val (.long (1 : Int64)), .second, .val (.ref r), .unset, .unset, .unset, .unset, .unset, .unset] []))
    refine own_Go.st (fun _ kt => XS.iload X8.here hx rfl (hb hby at_38) rfl kt) ?_
    show own_Go p e below _ (T8.setTop (mkF m 40 #[.val (.int p0), .val (.int p1), .val (.int p2), .val (.int p3), .val (.int p4), .val (.int (2 : Int32)), .val (.long (1 : Int64)), .second, .val (.ref r), .unset, .unset, .unset, .unset, .unset, .unset] [(.int (2 : Int32))]))
    refine own_Go.st (fun _ kt => XS.iconst X8.here hx rfl (hb hby at_40) kt) ?_
    show own_Go p e below _ (T8.setTop (mkF m 41 #[.val (.int p0), .val (.int p1), .val (.int p2), .val (.int p3), .val (.int p4), .val (.int (2 : Int32)), .val (.long (1 : Int64)), .second, .val (.ref r), .unset, .unset, .unset, .unset, .unset, .unset] [(.int (1 : Int32)), (.int (2 : Int32))]))
    refine own_Go.st (fun _ kt => XS.icmpNo X8.here hx rfl (hb hby at_41) rfl (tlt (by decide)).2.2.2 kt) ?_
    show own_Go p e below _ (T8.setTop (mkF m 44 #[.val (.int p0), .val (.int p1), .val (.int p2), .val (.int p3), .val (.int p4), .val (.int (2 : Int32)), .val (.long (1 : Int64)), .second, .val (.ref r), .unset, .unset, .unset, .unset, .unset, .unset] []))
    refine own_Go.st (fun _ kt => XS.aload X8.here hx rfl (hb hby at_44) rfl rfl kt) ?_
    show own_Go p e below _ (T8.setTop (mkF m 46 #[.val (.int p0), .val (.int p1), .val (.int p2), .val (.int p3), .val (.int p4), .val (.int (2 : Int32)), .val (.long (1 : Int64)), .second, .val (.ref r), .unset, .unset, .unset, .unset, .unset, .unset] [(.ref r)]))
    refine own_Go.st (fun _ kt => XS.iconst X8.here hx rfl (hb hby at_46) kt) ?_
    show own_Go p e below _ (T8.setTop (mkF m 47 #[.val (.int p0), .val (.int p1), .val (.int p2), .val (.int p3), .val (.int p4), .val (.int (2 : Int32)), .val (.long (1 : Int64)), .second, .val (.ref r), .unset, .unset, .unset, .unset, .unset, .unset] [(.int (1 : Int32)), (.ref r)]))
    refine own_Go.st (fun _ kt => XS.lload X8.here hx rfl (hb hby at_47) rfl kt) ?_
    show own_Go p e below _ (T8.setTop (mkF m 49 #[.val (.int p0), .val (.int p1), .val (.int p2), .val (.int p3), .val (.int p4), .val (.int (2 : Int32)), .val (.long (1 : Int64)), .second, .val (.ref r), .unset, .unset, .unset, .unset, .unset, .unset] [(.long (1 : Int64)), (.int (1 : Int32)), (.ref r)]))
    refine own_Go.st (fun _ kt => XS.iloadN X8.here hx rfl (hb hby at_49) rfl kt) ?_
    show own_Go p e below _ (T8.setTop (mkF m 50 #[.val (.int p0), .val (.int p1), .val (.int p2), .val (.int p3), .val (.int p4), .val (.int (2 : Int32)), .val (.long (1 : Int64)), .second, .val (.ref r), .unset, .unset, .unset, .unset, .unset, .unset] [(.int p2), (.long (1 : Int64)), (.int (1 : Int32)), (.ref r)]))
    refine own_Go.st (fun _ kt => XS.i2l X8.here hx rfl (hb hby at_50) rfl kt) ?_
    show own_Go p e below _ (T8.setTop (mkF m 51 #[.val (.int p0), .val (.int p1), .val (.int p2), .val (.int p3), .val (.int p4), .val (.int (2 : Int32)), .val (.long (1 : Int64)), .second, .val (.ref r), .unset, .unset, .unset, .unset, .unset, .unset] [(.long (p2.toInt64)), (.long (1 : Int64)), (.int (1 : Int32)), (.ref r)]))
    refine own_Go.st (fun _ kt => XS.lmul X8.here hx rfl (hb hby at_51) rfl kt) ?_
    show own_Go p e below _ (T8.setTop (mkF m 52 #[.val (.int p0), .val (.int p1), .val (.int p2), .val (.int p3), .val (.int p4), .val (.int (2 : Int32)), .val (.long (1 : Int64)), .second, .val (.ref r), .unset, .unset, .unset, .unset, .unset, .unset] [(.long ((1 : Int64) * (p2.toInt64))), (.int (1 : Int32)), (.ref r)]))
    refine own_Go.st (fun _ kt => XS.l2dS X8.here hx rfl (hb hby at_52) rfl rfl kt) ?_
    show own_Go p e below _ (T8.setTop (mkF m 53 #[.val (.int p0), .val (.int p1), .val (.int p2), .val (.int p3), .val (.int p4), .val (.int (2 : Int32)), .val (.long (1 : Int64)), .second, .val (.ref r), .unset, .unset, .unset, .unset, .unset, .unset] [(.double (FP.l2d ((1 : Int64) * (p2.toInt64)))), (.int (1 : Int32)), (.ref r)]))
    obtain ⟨T10, h10, X10, e10, W10, st10⟩ := own_dst X8 hx hZ e8 a8 (i := 1) (by decide) (by decide) (g := (mkF m 53 #[.val (.int p0), .val (.int p1), .val (.int p2), .val (.int p3), .val (.int p4), .val (.int (2 : Int32)), .val (.long (1 : Int64)), .second, .val (.ref r), .unset, .unset, .unset, .unset, .unset, .unset] [(.double (FP.l2d ((1 : Int64) * (p2.toInt64)))), (.int (1 : Int32)), (.ref r)])) rfl rfl (hb hby at_53)
    refine own_Go.st st10 ?_
    have N10 := Fr.snoc X10 N8 n0_r
    have a10 := own_Ar.set a8 W10
    have zz11 : n0 ≤ Array.size h10 := Nat.le_trans zz9 (Nat.le_of_eq (Wr.size W10).symm)
    show own_Go p e below _ (T10.setTop (mkF m 54 #[.val (.int p0), .val (.int p1), .val (.int p2), .val (.int p3), .val (.int p4), .val (.int (2 : Int32)), .val (.long (1 : Int64)), .second, .val (.ref r), .unset, .unset, .unset, .unset, .unset, .unset] []))
    refine own_Go.st (fun _ kt => XS.iload X10.here hx rfl (hb hby at_54) rfl kt) ?_
    show own_Go p e below _ (T10.setTop (mkF m 56 #[.val (.int p0), .val (.int p1), .val (.int p2), .val (.int p3), .val (.int p4), .val (.int (2 : Int32)), .val (.long (1 : Int64)), .second, .val (.ref r), .unset, .unset, .unset, .unset, .unset, .unset] [(.int (2 : Int32))]))
    refine own_Go.st (fun _ kt => XS.iconst X10.here hx rfl (hb hby at_56) kt) ?_
    show own_Go p e below _ (T10.setTop (mkF m 57 #[.val (.int p0), .val (.int p1), .val (.int p2), .val (.int p3), .val (.int p4), .val (.int (2 : Int32)), .val (.long (1 : Int64)), .second, .val (.ref r), .unset, .unset, .unset, .unset, .unset, .unset] [(.int (2 : Int32)), (.int (2 : Int32))]))
    refine own_Go.st (fun _ kt => XS.icmpYes X10.here hx rfl (pc0 := 57) (pc' := 70) rfl (hb hby at_57) rfl (flt (by decide)).2.2.2 (by decide) (by decide) kt) ?_
    show own_Go p e below _ (T10.setTop (mkF m 70 #[.val (.int p0), .val (.int p1), .val (.int p2), .val (.int p3), .val (.int p4), .val (.int (2 : Int32)), .val (.long (1 : Int64)), .second, .val (.ref r), .unset, .unset, .unset, .unset, .unset, .unset] []))
    refine own_Go.st (fun _ kt => XS.iload X10.here hx rfl (hb hby at_70) rfl kt) ?_
    show own_Go p e below _ (T10.setTop (mkF m 72 #[.val (.int p0), .val (.int p1), .val (.int p2), .val (.int p3), .val (.int p4), .val (.int (2 : Int32)), .val (.long (1 : Int64)), .second, .val (.ref r), .unset, .unset, .unset, .unset, .unset, .unset] [(.int (2 : Int32))]))
    refine own_Go.st (fun _ kt => XS.iconst X10.here hx rfl (hb hby at_72) kt) ?_
    show own_Go p e below _ (T10.setTop (mkF m 73 #[.val (.int p0), .val (.int p1), .val (.int p2), .val (.int p3), .val (.int p4), .val (.int (2 : Int32)), .val (.long (1 : Int64)), .second, .val (.ref r), .unset, .unset, .unset, .unset, .unset, .unset] [(.int (3 : Int32)), (.int (2 : Int32))]))
    refine own_Go.st (fun _ kt => XS.icmpYes X10.here hx rfl (pc0 := 73) (pc' := 87) rfl (hb hby at_73) rfl (flt (by decide)).2.2.2 (by decide) (by decide) kt) ?_
    show own_Go p e below _ (T10.setTop (mkF m 87 #[.val (.int p0), .val (.int p1), .val (.int p2), .val (.int p3), .val (.int p4), .val (.int (2 : Int32)), .val (.long (1 : Int64)), .second, .val (.ref r), .unset, .unset, .unset, .unset, .unset, .unset] []))
    refine own_Go.st (fun _ kt => XS.iloadN X10.here hx rfl (hb hby at_87) rfl kt) ?_
    show own_Go p e below _ (T10.setTop (mkF m 88 #[.val (.int p0), .val (.int p1), .val (.int p2), .val (.int p3), .val (.int p4), .val (.int (2 : Int32)), .val (.long (1 : Int64)), .second, .val (.ref r), .unset, .unset, .unset, .unset, .unset, .unset] [(.int p1)]))
    refine own_Go.st (fun _ kt => XS.i2l X10.here hx rfl (hb hby at_88) rfl kt) ?_
    show own_Go p e below _ (T10.setTop (mkF m 89 #[.val (.int p0), .val (.int p1), .val (.int p2), .val (.int p3), .val (.int p4), .val (.int (2 : Int32)), .val (.long (1 : Int64)), .second, .val (.ref r), .unset, .unset, .unset, .unset, .unset, .unset] [(.long (p1.toInt64))]))
    refine own_Go.st (fun _ kt => XS.lstore X10.here hx rfl (hb hby at_89) rfl (l' := #[.val (.int p0), .val (.int p1), .val (.int p2), .val (.int p3), .val (.int p4), .val (.int (2 : Int32)), .val (.long (1 : Int64)), .second, .val (.ref r), .val (.long (p1.toInt64)), .second, .unset, .unset, .unset, .unset]) rfl kt) ?_
    show own_Go p e below _ (T10.setTop (mkF m 91 #[.val (.int p0), .val (.int p1), .val (.int p2), .val (.int p3), .val (.int p4), .val (.int (2 : Int32)), .val (.long (1 : Int64)), .second, .val (.ref r), .val (.long (p1.toInt64)), .second, .unset, .unset, .unset, .unset] []))
    refine own_Go.st (fun _ kt => XS.iload X10.here hx rfl (hb hby at_91) rfl kt) ?_
    show own_Go p e below _ (T10.setTop (mkF m 93 #[.val (.int p0), .val (.int p1), .val (.int p2), .val (.int p3), .val (.int p4), .val (.int (2 : Int32)), .val (.long (1 : Int64)), .second, .val (.ref r), .val (.long (p1.toInt64)), .second, .unset, .unset, .unset, .unset] [(.int (2 : Int32))]))
    refine own_Go.st (fun _ kt => XS.iconst X10.here hx rfl (hb hby at_93) kt) ?_
    show own_Go p e below _ (T10.setTop (mkF m 94 #[.val (.int p0), .val (.int p1), .val (.int p2), .val (.int p3), .val (.int p4), .val (.int (2 : Int32)), .val (.long (1 : Int64)), .second, .val (.ref r), .val (.long (p1.toInt64)), .second, .unset, .unset, .unset, .unset] [(.int (1 : Int32)), (.int (2 : Int32))]))
    refine own_Go.st (fun _ kt => XS.icmpNo X10.here hx rfl (hb hby at_94) rfl (tlt (by decide)).2.2.2 kt) ?_
    show own_Go p e below _ (T10.setTop (mkF m 97 #[.val (.int p0), .val (.int p1), .val (.int p2), .val (.int p3), .val (.int p4), .val (.int (2 : Int32)), .val (.long (1 : Int64)), .second, .val (.ref r), .val (.long (p1.toInt64)), .second, .unset, .unset, .unset, .unset] []))
    refine own_Go.st (fun _ kt => XS.lload X10.here hx rfl (hb hby at_97) rfl kt) ?_
    show own_Go p e below _ (T10.setTop (mkF m 99 #[.val (.int p0), .val (.int p1), .val (.int p2), .val (.int p3), .val (.int p4), .val (.int (2 : Int32)), .val (.long (1 : Int64)), .second, .val (.ref r), .val (.long (p1.toInt64)), .second, .unset, .unset, .unset, .unset] [(.long (p1.toInt64))]))
    refine own_Go.st (fun _ kt => XS.iloadN X10.here hx rfl (hb hby at_99) rfl kt) ?_
    show own_Go p e below _ (T10.setTop (mkF m 100 #[.val (.int p0), .val (.int p1), .val (.int p2), .val (.int p3), .val (.int p4), .val (.int (2 : Int32)), .val (.long (1 : Int64)), .second, .val (.ref r), .val (.long (p1.toInt64)), .second, .unset, .unset, .unset, .unset] [(.int p2), (.long (p1.toInt64))]))
    refine own_Go.st (fun _ kt => XS.i2l X10.here hx rfl (hb hby at_100) rfl kt) ?_
    show own_Go p e below _ (T10.setTop (mkF m 101 #[.val (.int p0), .val (.int p1), .val (.int p2), .val (.int p3), .val (.int p4), .val (.int (2 : Int32)), .val (.long (1 : Int64)), .second, .val (.ref r), .val (.long (p1.toInt64)), .second, .unset, .unset, .unset, .unset] [(.long (p2.toInt64)), (.long (p1.toInt64))]))
    refine own_Go.st (fun _ kt => XS.ladd X10.here hx rfl (hb hby at_101) rfl kt) ?_
    show own_Go p e below _ (T10.setTop (mkF m 102 #[.val (.int p0), .val (.int p1), .val (.int p2), .val (.int p3), .val (.int p4), .val (.int (2 : Int32)), .val (.long (1 : Int64)), .second, .val (.ref r), .val (.long (p1.toInt64)), .second, .unset, .unset, .unset, .unset] [(.long ((p1.toInt64) + (p2.toInt64)))]))
    refine own_Go.st (fun _ kt => XS.lstore X10.here hx rfl (hb hby at_102) rfl (l' := #[.val (.int p0), .val (.int p1), .val (.int p2), .val (.int p3), .val (.int p4), .val (.int (2 : Int32)), .val (.long (1 : Int64)), .second, .val (.ref r), .val (.long ((p1.toInt64) + (p2.toInt64))), .second, .unset, .unset, .unset, .unset]) rfl kt) ?_
    show own_Go p e below _ (T10.setTop (mkF m 104 #[.val (.int p0), .val (.int p1), .val (.int p2), .val (.int p3), .val (.int p4), .val (.int (2 : Int32)), .val (.long (1 : Int64)), .second, .val (.ref r), .val (.long ((p1.toInt64) + (p2.toInt64))), .second, .unset, .unset, .unset, .unset] []))
    refine own_Go.st (fun _ kt => XS.iload X10.here hx rfl (hb hby at_104) rfl kt) ?_
    show own_Go p e below _ (T10.setTop (mkF m 106 #[.val (.int p0), .val (.int p1), .val (.int p2), .val (.int p3), .val (.int p4), .val (.int (2 : Int32)), .val (.long (1 : Int64)), .second, .val (.ref r), .val (.long ((p1.toInt64) + (p2.toInt64))), .second, .unset, .unset, .unset, .unset] [(.int (2 : Int32))]))
    refine own_Go.st (fun _ kt => XS.iconst X10.here hx rfl (hb hby at_106) kt) ?_
    show own_Go p e below _ (T10.setTop (mkF m 107 #[.val (.int p0), .val (.int p1), .val (.int p2), .val (.int p3), .val (.int p4), .val (.int (2 : Int32)), .val (.long (1 : Int64)), .second, .val (.ref r), .val (.long ((p1.toInt64) + (p2.toInt64))), .second, .unset, .unset, .unset, .unset] [(.int (2 : Int32)), (.int (2 : Int32))]))
    refine own_Go.st (fun _ kt => XS.icmpYes X10.here hx rfl (pc0 := 107) (pc' := 117) rfl (hb hby at_107) rfl (flt (by decide)).2.2.2 (by decide) (by decide) kt) ?_
    show own_Go p e below _ (T10.setTop (mkF m 117 #[.val (.int p0), .val (.int p1), .val (.int p2), .val (.int p3), .val (.int p4), .val (.int (2 : Int32)), .val (.long (1 : Int64)), .second, .val (.ref r), .val (.long ((p1.toInt64) + (p2.toInt64))), .second, .unset, .unset, .unset, .unset] []))
    refine own_Go.st (fun _ kt => XS.iload X10.here hx rfl (hb hby at_117) rfl kt) ?_
    show own_Go p e below _ (T10.setTop (mkF m 119 #[.val (.int p0), .val (.int p1), .val (.int p2), .val (.int p3), .val (.int p4), .val (.int (2 : Int32)), .val (.long (1 : Int64)), .second, .val (.ref r), .val (.long ((p1.toInt64) + (p2.toInt64))), .second, .unset, .unset, .unset, .unset] [(.int (2 : Int32))]))
    refine own_Go.st (fun _ kt => XS.iconst X10.here hx rfl (hb hby at_119) kt) ?_
    show own_Go p e below _ (T10.setTop (mkF m 120 #[.val (.int p0), .val (.int p1), .val (.int p2), .val (.int p3), .val (.int p4), .val (.int (2 : Int32)), .val (.long (1 : Int64)), .second, .val (.ref r), .val (.long ((p1.toInt64) + (p2.toInt64))), .second, .unset, .unset, .unset, .unset] [(.int (3 : Int32)), (.int (2 : Int32))]))
    refine own_Go.st (fun _ kt => XS.icmpYes X10.here hx rfl (pc0 := 120) (pc' := 131) rfl (hb hby at_120) rfl (flt (by decide)).2.2.2 (by decide) (by decide) kt) ?_
    show own_Go p e below _ (T10.setTop (mkF m 131 #[.val (.int p0), .val (.int p1), .val (.int p2), .val (.int p3), .val (.int p4), .val (.int (2 : Int32)), .val (.long (1 : Int64)), .second, .val (.ref r), .val (.long ((p1.toInt64) + (p2.toInt64))), .second, .unset, .unset, .unset, .unset] []))
    refine own_Go.st (fun _ kt => XS.iload X10.here hx rfl (hb hby at_131) rfl kt) ?_
    show own_Go p e below _ (T10.setTop (mkF m 133 #[.val (.int p0), .val (.int p1), .val (.int p2), .val (.int p3), .val (.int p4), .val (.int (2 : Int32)), .val (.long (1 : Int64)), .second, .val (.ref r), .val (.long ((p1.toInt64) + (p2.toInt64))), .second, .unset, .unset, .unset, .unset] [(.int (2 : Int32))]))
    refine own_Go.st (fun _ kt => XS.iconst X10.here hx rfl (hb hby at_133) kt) ?_
    show own_Go p e below _ (T10.setTop (mkF m 134 #[.val (.int p0), .val (.int p1), .val (.int p2), .val (.int p3), .val (.int p4), .val (.int (2 : Int32)), .val (.long (1 : Int64)), .second, .val (.ref r), .val (.long ((p1.toInt64) + (p2.toInt64))), .second, .unset, .unset, .unset, .unset] [(.int (3 : Int32)), (.int (2 : Int32))]))
    refine own_Go.st (fun _ kt => XS.icmpYes X10.here hx rfl (pc0 := 134) (pc' := 143) rfl (hb hby at_134) rfl (feq (by decide)).2 (by decide) (by decide) kt) ?_
    show own_Go p e below _ (T10.setTop (mkF m 143 #[.val (.int p0), .val (.int p1), .val (.int p2), .val (.int p3), .val (.int p4), .val (.int (2 : Int32)), .val (.long (1 : Int64)), .second, .val (.ref r), .val (.long ((p1.toInt64) + (p2.toInt64))), .second, .unset, .unset, .unset, .unset] []))
    refine own_Go.st (fun _ kt => XS.lload X10.here hx rfl (hb hby at_143) rfl kt) ?_
    show own_Go p e below _ (T10.setTop (mkF m 145 #[.val (.int p0), .val (.int p1), .val (.int p2), .val (.int p3), .val (.int p4), .val (.int (2 : Int32)), .val (.long (1 : Int64)), .second, .val (.ref r), .val (.long ((p1.toInt64) + (p2.toInt64))), .second, .unset, .unset, .unset, .unset] [(.long ((p1.toInt64) + (p2.toInt64)))]))
    refine own_Go.st (fun _ kt => XS.l2dS X10.here hx rfl (hb hby at_145) rfl rfl kt) ?_
    show own_Go p e below _ (T10.setTop (mkF m 146 #[.val (.int p0), .val (.int p1), .val (.int p2), .val (.int p3), .val (.int p4), .val (.int (2 : Int32)), .val (.long (1 : Int64)), .second, .val (.ref r), .val (.long ((p1.toInt64) + (p2.toInt64))), .second, .unset, .unset, .unset, .unset] [(.double (FP.l2d ((p1.toInt64) + (p2.toInt64))))]))
    refine own_Go.st (fun _ kt => XS.iload X10.here hx rfl (hb hby at_146) rfl kt) ?_
    show own_Go p e below _ (T10.setTop (mkF m 148 #[.val (.int p0), .val (.int p1), .val (.int p2), .val (.int p3), .val (.int p4), .val (.int (2 : Int32)), .val (.long (1 : Int64)), .second, .val (.ref r), .val (.long ((p1.toInt64) + (p2.toInt64))), .second, .unset, .unset, .unset, .unset] [(.int (2 : Int32)), (.double (FP.l2d ((p1.toInt64) + (p2.toInt64))))]))
    refine own_Go.st (fun _ kt => XS.i2dS X10.here hx rfl (hb hby at_148) rfl rfl kt) ?_
    show own_Go p e below _ (T10.setTop (mkF m 149 #[.val (.int p0), .val (.int p1), .val (.int p2), .val (.int p3), .val (.int p4), .val (.int (2 : Int32)), .val (.long (1 : Int64)), .second, .val (.ref r), .val (.long ((p1.toInt64) + (p2.toInt64))), .second, .unset, .unset, .unset, .unset] [(.double (FP.i2d (2 : Int32))), (.double (FP.l2d ((p1.toInt64) + (p2.toInt64))))]))
    have ar := own_Ar.congr (f' := fun j => .double (own_pick (FP.l2d ((1 : Int64) * p1.toInt64)) (FP.l2d ((1 : Int64) * p2.toInt64)) (FP.l2d ((1 : Int64) * p3.toInt64)) (FP.l2d ((1 : Int64) * p4.toInt64)) j)) a10 (fun j hj => by
      have : j = 0 ∨ j = 1 := by omega
      rcases this with rfl | rfl <;> rfl)
    have hS : own_sum (fun j => (own_pick p1 p2 p3 p4 j).toInt) 2 = p1.toInt + p2.toInt := by simp [own_sum, own_pick]
    have q1 := own_abs32 p1
    have q2 := own_abs32 p2
    have q3 := own_abs32 p3
    have q4 := own_abs32 p4
    have t1 : p1.toInt64.toInt = p1.toInt := c_i2l p1
    have t2 := own_add64 (b := p2) t1 (by omega)
    have hwx := own_whole (z := (p1.toInt64 + p2.toInt64)) (xn := 2) (K := 1073) t2 (by omega) (n := 2) (by decide) (by decide) (by decide) own_e2
    refine own_Go.st (fun _ kt => XS.ddivS X10.here hx rfl (hb hby at_149) rfl (Jvm.FP.Core.own_D.n64 hwx) rfl kt) ?_
    show own_Go p e below _ (T10.setTop (mkF m 150 #[.val (.int p0), .val (.int p1), .val (.int p2), .val (.int p3), .val (.int p4), .val (.int (2 : Int32)), .val (.long (1 : Int64)), .second, .val (.ref r), .val (.long ((p1.toInt64) + (p2.toInt64))), .second, .unset, .unset, .unset, .unset] [(.double (FP.ddiv (FP.l2d ((p1.toInt64) + (p2.toInt64))) (FP.i2d (2 : Int32))))]))
    refine own_Go.st (fun _ kt => XS.dstore X10.here hx rfl (hb hby at_150) rfl (l' := #[.val (.int p0), .val (.int p1), .val (.int p2), .val (.int p3), .val (.int p4), .val (.int (2 : Int32)), .val (.long (1 : Int64)), .second, .val (.ref r), .val (.long ((p1.toInt64) + (p2.toInt64))), .second, .val (.double (FP.ddiv (FP.l2d ((p1.toInt64) + (p2.toInt64))) (FP.i2d (2 : Int32)))), .second, .unset, .unset]) rfl kt) ?_
    show own_Go p e below _ (T10.setTop (mkF m 152 #[.val (.int p0), .val (.int p1), .val (.int p2), .val (.int p3), .val (.int p4), .val (.int (2 : Int32)), .val (.long (1 : Int64)), .second, .val (.ref r), .val (.long ((p1.toInt64) + (p2.toInt64))), .second, .val (.double (FP.ddiv (FP.l2d ((p1.toInt64) + (p2.toInt64))) (FP.i2d (2 : Int32)))), .second, .unset, .unset] []))
    refine own_Go.st (fun _ kt => XS.aload X10.here hx rfl (hb hby at_152) rfl rfl kt) ?_
    show own_Go p e below _ (T10.setTop (mkF m 154 #[.val (.int p0), .val (.int p1), .val (.int p2), .val (.int p3), .val (.int p4), .val (.int (2 : Int32)), .val (.long (1 : Int64)), .second, .val (.ref r), .val (.long ((p1.toInt64) + (p2.toInt64))), .second, .val (.double (FP.ddiv (FP.l2d ((p1.toInt64) + (p2.toInt64))) (FP.i2d (2 : Int32)))), .second, .unset, .unset] [(.ref r)]))
    obtain ⟨_, _, ⟨T12, L12, k12, n12⟩, -, X12, ⟨Lc12, hQ12, l12, y12, z12⟩, st12⟩ := Jvm.LawKit.callS X10 hx (y := (⟨"com/example/wallingford/wallingford/statistics/SampleStatistics", "mean", "([D)D"⟩ : MethodName)) hown (mvT hZ (hw _ (List.mem_of_getElem? (i := 1) rfl))) (mvT hZ (hw _ (List.mem_of_getElem? (i := 2) rfl))) (mvT hZ (hw _ (List.mem_of_getElem? (i := 3) rfl))) (mvT hZ (hw _ (List.mem_of_getElem? (i := 4) rfl))) (by decide) (backOf (W := 0) (own_mean l Z a0 hw [] r (2 : Int32) 2 1073 (own_pick (FP.l2d ((1 : Int64) * p1.toInt64)) (FP.l2d ((1 : Int64) * p2.toInt64)) (FP.l2d ((1 : Int64) * p3.toInt64)) (FP.l2d ((1 : Int64) * p4.toInt64))) (fun j => (own_pick p1 p2 p3 p4 j).toInt) h10 n0 zz11 ar (by decide) (by decide) (by decide) (fun j => own_abs32 _) (fun j hj => by
      have : j = 0 ∨ j = 1 := by omega
      rcases this with rfl | rfl <;> exact own_share (k := (1 : Int64)) (xn := 2) (n := 2) (m := 1) (by decide) (by decide) (by decide) (by decide) (by decide) own_e2 _)) hZ (hw _ (List.mem_of_getElem? (i := 4) rfl)) (hw _ (List.mem_of_getElem? (i := 3) rfl)) (by decide) (by decide)) (g := (mkF m 154 #[.val (.int p0), .val (.int p1), .val (.int p2), .val (.int p3), .val (.int p4), .val (.int (2 : Int32)), .val (.long (1 : Int64)), .second, .val (.ref r), .val (.long ((p1.toInt64) + (p2.toInt64))), .second, .val (.double (FP.ddiv (FP.l2d ((p1.toInt64) + (p2.toInt64))) (FP.i2d (2 : Int32)))), .second, .unset, .unset] [(.ref r)])) rfl (by rw [hml]; rfl) (argsL := [(.ref r)]) (rest := []) (lenOf own_pd0 rfl) rfl (by show 2 * 0 + _ ≤ _; exact Nat.le_of_eq rfl) (hb hby at_154) (fun _ _ => ⟨rfl, e10, (by decide : 1 + 0 ≤ _), (by decide : 4 + 0 ≤ _)⟩)
    dsimp only [Pt.U, Pt.locs, Pt.cells, Pt.slots] at X12 l12 y12 z12 st12 hQ12
    subst l12 y12 z12
    obtain ⟨d, rfl, N12q, hd12, hh12⟩ := hQ12
    have N12 := Fr.app N10 N12q
    refine own_Go.st (fun _ kt => st12 _ kt) ?_
    show own_Go p e below _ (T12.setTop (mkF m 157 #[.val (.int p0), .val (.int p1), .val (.int p2), .val (.int p3), .val (.int p4), .val (.int (2 : Int32)), .val (.long (1 : Int64)), .second, .val (.ref r), .val (.long ((p1.toInt64) + (p2.toInt64))), .second, .val (.double (FP.ddiv (FP.l2d ((p1.toInt64) + (p2.toInt64))) (FP.i2d (2 : Int32)))), .second, .unset, .unset] [(.double d)]))
    rw [hS] at hd12
    refine own_Go.st (fun _ kt => XS.dstore X12.here hx rfl (hb hby at_157) rfl (l' := #[.val (.int p0), .val (.int p1), .val (.int p2), .val (.int p3), .val (.int p4), .val (.int (2 : Int32)), .val (.long (1 : Int64)), .second, .val (.ref r), .val (.long ((p1.toInt64) + (p2.toInt64))), .second, .val (.double (FP.ddiv (FP.l2d ((p1.toInt64) + (p2.toInt64))) (FP.i2d (2 : Int32)))), .second, .val (.double d), .second]) rfl kt) ?_
    show own_Go p e below _ (T12.setTop (mkF m 159 #[.val (.int p0), .val (.int p1), .val (.int p2), .val (.int p3), .val (.int p4), .val (.int (2 : Int32)), .val (.long (1 : Int64)), .second, .val (.ref r), .val (.long ((p1.toInt64) + (p2.toInt64))), .second, .val (.double (FP.ddiv (FP.l2d ((p1.toInt64) + (p2.toInt64))) (FP.i2d (2 : Int32)))), .second, .val (.double d), .second] []))
    refine own_Go.st (fun _ kt => XS.dload X12.here hx rfl (hb hby at_159) rfl kt) ?_
    show own_Go p e below _ (T12.setTop (mkF m 161 #[.val (.int p0), .val (.int p1), .val (.int p2), .val (.int p3), .val (.int p4), .val (.int (2 : Int32)), .val (.long (1 : Int64)), .second, .val (.ref r), .val (.long ((p1.toInt64) + (p2.toInt64))), .second, .val (.double (FP.ddiv (FP.l2d ((p1.toInt64) + (p2.toInt64))) (FP.i2d (2 : Int32)))), .second, .val (.double d), .second] [(.double d)]))
    refine own_Go.st (fun _ kt => XS.dload X12.here hx rfl (hb hby at_161) rfl kt) ?_
    show own_Go p e below _ (T12.setTop (mkF m 163 #[.val (.int p0), .val (.int p1), .val (.int p2), .val (.int p3), .val (.int p4), .val (.int (2 : Int32)), .val (.long (1 : Int64)), .second, .val (.ref r), .val (.long ((p1.toInt64) + (p2.toInt64))), .second, .val (.double (FP.ddiv (FP.l2d ((p1.toInt64) + (p2.toInt64))) (FP.i2d (2 : Int32)))), .second, .val (.double d), .second] [(.double (FP.ddiv (FP.l2d ((p1.toInt64) + (p2.toInt64))) (FP.i2d (2 : Int32)))), (.double d)]))
    refine own_Go.st (fun _ kt => XS.dcmpS X12.here hx rfl (hb hby at_163) rfl (own_deq hd12 hwx _) kt) ?_
    show own_Go p e below _ (T12.setTop (mkF m 164 #[.val (.int p0), .val (.int p1), .val (.int p2), .val (.int p3), .val (.int p4), .val (.int (2 : Int32)), .val (.long (1 : Int64)), .second, .val (.ref r), .val (.long ((p1.toInt64) + (p2.toInt64))), .second, .val (.double (FP.ddiv (FP.l2d ((p1.toInt64) + (p2.toInt64))) (FP.i2d (2 : Int32)))), .second, .val (.double d), .second] [(.int (0 : Int32))]))
    refine own_Go.st (fun _ kt => XS.ifNo X12.here hx rfl (hb hby at_164) rfl ((if0 _ _).trans (teq rfl).2) kt) ?_
    show own_Go p e below _ (T12.setTop (mkF m 167 #[.val (.int p0), .val (.int p1), .val (.int p2), .val (.int p3), .val (.int p4), .val (.int (2 : Int32)), .val (.long (1 : Int64)), .second, .val (.ref r), .val (.long ((p1.toInt64) + (p2.toInt64))), .second, .val (.double (FP.ddiv (FP.l2d ((p1.toInt64) + (p2.toInt64))) (FP.i2d (2 : Int32)))), .second, .val (.double d), .second] []))
    refine own_Go.st (fun _ kt => XS.iconst X12.here hx rfl (hb hby at_167) kt) ?_
    show own_Go p e below _ (T12.setTop (mkF m 168 #[.val (.int p0), .val (.int p1), .val (.int p2), .val (.int p3), .val (.int p4), .val (.int (2 : Int32)), .val (.long (1 : Int64)), .second, .val (.ref r), .val (.long ((p1.toInt64) + (p2.toInt64))), .second, .val (.double (FP.ddiv (FP.l2d ((p1.toInt64) + (p2.toInt64))) (FP.i2d (2 : Int32)))), .second, .val (.double d), .second] [(.int (1 : Int32))]))
    refine own_Go.st (fun _ kt => XS.goto X12.here hx rfl (pc0 := 168) (pc' := 172) rfl (hb hby at_168) (by decide) (by decide) kt) ?_
    show own_Go p e below _ (T12.setTop (mkF m 172 #[.val (.int p0), .val (.int p1), .val (.int p2), .val (.int p3), .val (.int p4), .val (.int (2 : Int32)), .val (.long (1 : Int64)), .second, .val (.ref r), .val (.long ((p1.toInt64) + (p2.toInt64))), .second, .val (.double (FP.ddiv (FP.l2d ((p1.toInt64) + (p2.toInt64))) (FP.i2d (2 : Int32)))), .second, .val (.double d), .second] [(.int (1 : Int32))]))
    exact own_retZ X12 hx Bd.notSynchronized Bd.returns (Or.inr rfl) (hb hby at_172) (by decide) (by decide) ⟨rfl, N12⟩
  · show own_Go p e below _ (s₁.setTop (mkF m 5 #[.val (.int p0), .val (.int p1), .val (.int p2), .val (.int p3), .val (.int p4), .unset, .unset, .unset, .unset, .unset, .unset, .unset, .unset, .unset, .unset] [(.int (3 : Int32))]))
    refine own_Go.st (fun _ kt => XS.istore X0.here hx rfl (hb hby at_5) rfl (l' := #[.val (.int p0), .val (.int p1), .val (.int p2), .val (.int p3), .val (.int p4), .val (.int (3 : Int32)), .unset, .unset, .unset, .unset, .unset, .unset, .unset, .unset, .unset]) rfl kt) ?_
    show own_Go p e below _ (s₁.setTop (mkF m 7 #[.val (.int p0), .val (.int p1), .val (.int p2), .val (.int p3), .val (.int p4), .val (.int (3 : Int32)), .unset, .unset, .unset, .unset, .unset, .unset, .unset, .unset, .unset] []))
    refine own_Go.st (fun _ kt => XS.iload X0.here hx rfl (hb hby at_7) rfl kt) ?_
    show own_Go p e below _ (s₁.setTop (mkF m 9 #[.val (.int p0), .val (.int p1), .val (.int p2), .val (.int p3), .val (.int p4), .val (.int (3 : Int32)), .unset, .unset, .unset, .unset, .unset, .unset, .unset, .unset, .unset] [(.int (3 : Int32))]))
    refine own_Go.st (fun _ kt => XS.iconst X0.here hx rfl (hb hby at_9) kt) ?_
    show own_Go p e below _ (s₁.setTop (mkF m 10 #[.val (.int p0), .val (.int p1), .val (.int p2), .val (.int p3), .val (.int p4), .val (.int (3 : Int32)), .unset, .unset, .unset, .unset, .unset, .unset, .unset, .unset, .unset] [(.int (3 : Int32)), (.int (3 : Int32))]))
    refine own_Go.st (fun _ kt => XS.icmpNo X0.here hx rfl (hb hby at_10) rfl (teq (by decide)).2 kt) ?_
    show own_Go p e below _ (s₁.setTop (mkF m 13 #[.val (.int p0), .val (.int p1), .val (.int p2), .val (.int p3), .val (.int p4), .val (.int (3 : Int32)), .unset, .unset, .unset, .unset, .unset, .unset, .unset, .unset, .unset] []))
    refine own_Go.st (fun _ kt => X0.ldc2J hx hown (mvT hZ (hw _ (List.mem_of_getElem? (i := 5) rfl))) rfl (hb hby at_13) kt) ?_
    show own_Go p e below _ (s₁.setTop (mkF m 16 #[.val (.int p0), .val (.int p1), .val (.int p2), .val (.int p3), .val (.int p4), .val (.int (3 : Int32)), .unset, .unset, .unset, .unset, .unset, .unset, .unset, .unset, .unset] [(.long (3 : Int64))]))
    refine own_Go.st (fun _ kt => XS.goto X0.here hx rfl (pc0 := 16) (pc' := 20) rfl (hb hby at_16) (by decide) (by decide) kt) ?_
    show own_Go p e below _ (s₁.setTop (mkF m 20 #[.val (.int p0), .val (.int p1), .val (.int p2), .val (.int p3), .val (.int p4), .val (.int (3 : Int32)), .unset, .unset, .unset, .unset, .unset, .unset, .unset, .unset, .unset] [(.long (3 : Int64))]))
    refine own_Go.st (fun _ kt => XS.lstore X0.here hx rfl (hb hby at_20) rfl (l' := #[.val (.int p0), .val (.int p1), .val (.int p2), .val (.int p3), .val (.int p4), .val (.int (3 : Int32)), .val (.long (3 : Int64)), .second, .unset, .unset, .unset, .unset, .unset, .unset, .unset]) rfl kt) ?_
    show own_Go p e below _ (s₁.setTop (mkF m 22 #[.val (.int p0), .val (.int p1), .val (.int p2), .val (.int p3), .val (.int p4), .val (.int (3 : Int32)), .val (.long (3 : Int64)), .second, .unset, .unset, .unset, .unset, .unset, .unset, .unset] []))
    refine own_Go.st (fun _ kt => XS.iload X0.here hx rfl (hb hby at_22) rfl kt) ?_
    show own_Go p e below _ (s₁.setTop (mkF m 24 #[.val (.int p0), .val (.int p1), .val (.int p2), .val (.int p3), .val (.int p4), .val (.int (3 : Int32)), .val (.long (3 : Int64)), .second, .unset, .unset, .unset, .unset, .unset, .unset, .unset] [(.int (3 : Int32))]))
    obtain ⟨T13, h13, k13, X13, e13, E13, A13, st13⟩ := newP X0 hx hZ (hw _ (List.mem_of_getElem? (i := 0) rfl)) e0 (g := (mkF m 24 #[.val (.int p0), .val (.int p1), .val (.int p2), .val (.int p3), .val (.int p4), .val (.int (3 : Int32)), .val (.long (3 : Int64)), .second, .unset, .unset, .unset, .unset, .unset, .unset, .unset] [(.int (3 : Int32))])) rfl (hb hby at_24) rfl (by decide) (cap := 4) (by decide) (by decide) (by decide) (by decide)
    obtain ⟨r, g13⟩ : ∃ z, z = Array.size h0 := ⟨_, rfl⟩
    rw [← g13] at A13 st13
    refine own_Go.st st13 ?_
    have n0_r : n0 ≤ r := Nat.le_trans Z0 (Nat.le_of_eq g13.symm)
    have zz14 : n0 ≤ Array.size h13 := Nat.le_trans Z0 E13.1
    show own_Go p e below _ (T13.setTop (mkF m 26 #[.val (.int p0), .val (.int p1), .val (.int p2), .val (.int p3), .val (.int p4), .val (.int (3 : Int32)), .val (.long (3 : Int64)), .second, .unset, .unset, .unset, .unset, .unset, .unset, .unset] [(.ref r)]))
    have a0r := own_Ar.new A13 (n := 3) (by decide)
    refine own_Go.st (fun _ kt => XS.astore X13.here hx rfl (hb hby at_26) rfl rfl (l' := #[.val (.int p0), .val (.int p1), .val (.int p2), .val (.int p3), .val (.int p4), .val (.int (3 : Int32)), .val (.long (3 : Int64)), .second, .val (.ref r), .unset, .unset, .unset, .unset, .unset, .unset]) rfl kt) ?_
    show own_Go p e below _ (T13.setTop (mkF m 28 #[.val (.int p0), .val (.int p1), .val (.int p2), .val (.int p3), .val (.int p4), .val (.int (3 : Int32)), .val (.long (3 : Int64)), .second, .val (.ref r), .unset, .unset, .unset, .unset, .unset, .unset] []))
    refine own_Go.st (fun _ kt => XS.aload X13.here hx rfl (hb hby at_28) rfl rfl kt) ?_
    show own_Go p e below _ (T13.setTop (mkF m 30 #[.val (.int p0), .val (.int p1), .val (.int p2), .val (.int p3), .val (.int p4), .val (.int (3 : Int32)), .val (.long (3 : Int64)), .second, .val (.ref r), .unset, .unset, .unset, .unset, .unset, .unset] [(.ref r)]))
    refine own_Go.st (fun _ kt => XS.iconst X13.here hx rfl (hb hby at_30) kt) ?_
    show own_Go p e below _ (T13.setTop (mkF m 31 #[.val (.int p0), .val (.int p1), .val (.int p2), .val (.int p3), .val (.int p4), .val (.int (3 : Int32)), .val (.long (3 : Int64)), .second, .val (.ref r), .unset, .unset, .unset, .unset, .unset, .unset] [(.int (0 : Int32)), (.ref r)]))
    refine own_Go.st (fun _ kt => XS.lload X13.here hx rfl (hb hby at_31) rfl kt) ?_
    show own_Go p e below _ (T13.setTop (mkF m 33 #[.val (.int p0), .val (.int p1), .val (.int p2), .val (.int p3), .val (.int p4), .val (.int (3 : Int32)), .val (.long (3 : Int64)), .second, .val (.ref r), .unset, .unset, .unset, .unset, .unset, .unset] [(.long (3 : Int64)), (.int (0 : Int32)), (.ref r)]))
    refine own_Go.st (fun _ kt => XS.iloadN X13.here hx rfl (hb hby at_33) rfl kt) ?_
    show own_Go p e below _ (T13.setTop (mkF m 34 #[.val (.int p0), .val (.int p1), .val (.int p2), .val (.int p3), .val (.int p4), .val (.int (3 : Int32)), .val (.long (3 : Int64)), .second, .val (.ref r), .unset, .unset, .unset, .unset, .unset, .unset] [(.int p1), (.long (3 : Int64)), (.int (0 : Int32)), (.ref r)]))
    refine own_Go.st (fun _ kt => XS.i2l X13.here hx rfl (hb hby at_34) rfl kt) ?_
    show own_Go p e below _ (T13.setTop (mkF m 35 #[.val (.int p0), .val (.int p1), .val (.int p2), .val (.int p3), .val (.int p4), .val (.int (3 : Int32)), .val (.long (3 : Int64)), .second, .val (.ref r), .unset, .unset, .unset, .unset, .unset, .unset] [(.long (p1.toInt64)), (.long (3 : Int64)), (.int (0 : Int32)), (.ref r)]))
    refine own_Go.st (fun _ kt => XS.lmul X13.here hx rfl (hb hby at_35) rfl kt) ?_
    show own_Go p e below _ (T13.setTop (mkF m 36 #[.val (.int p0), .val (.int p1), .val (.int p2), .val (.int p3), .val (.int p4), .val (.int (3 : Int32)), .val (.long (3 : Int64)), .second, .val (.ref r), .unset, .unset, .unset, .unset, .unset, .unset] [(.long ((3 : Int64) * (p1.toInt64))), (.int (0 : Int32)), (.ref r)]))
    refine own_Go.st (fun _ kt => XS.l2dS X13.here hx rfl (hb hby at_36) rfl rfl kt) ?_
    show own_Go p e below _ (T13.setTop (mkF m 37 #[.val (.int p0), .val (.int p1), .val (.int p2), .val (.int p3), .val (.int p4), .val (.int (3 : Int32)), .val (.long (3 : Int64)), .second, .val (.ref r), .unset, .unset, .unset, .unset, .unset, .unset] [(.double (FP.l2d ((3 : Int64) * (p1.toInt64)))), (.int (0 : Int32)), (.ref r)]))
    obtain ⟨T15, h15, X15, e15, W15, st15⟩ := own_dst X13 hx hZ e13 a0r (i := 0) (by decide) (by decide) (g := (mkF m 37 #[.val (.int p0), .val (.int p1), .val (.int p2), .val (.int p3), .val (.int p4), .val (.int (3 : Int32)), .val (.long (3 : Int64)), .second, .val (.ref r), .unset, .unset, .unset, .unset, .unset, .unset] [(.double (FP.l2d ((3 : Int64) * (p1.toInt64)))), (.int (0 : Int32)), (.ref r)])) rfl rfl (hb hby at_37)
    refine own_Go.st st15 ?_
    have N15 := Fr.snoc X15 N0 n0_r
    have a15 := own_Ar.set a0r W15
    have zz16 : n0 ≤ Array.size h15 := Nat.le_trans zz14 (Nat.le_of_eq (Wr.size W15).symm)
    show own_Go p e below _ (T15.setTop (mkF m 38 #[.val (.int p0), .val (.int p1), .val (.int p2), .val (.int p3), .val (.int p4), .val (.int (3 : Int32)), .val (.long (3 : Int64)), .second, .val (.ref r), .unset, .unset, .unset, .unset, .unset, .unset] []))
    refine own_Go.st (fun _ kt => XS.iload X15.here hx rfl (hb hby at_38) rfl kt) ?_
    show own_Go p e below _ (T15.setTop (mkF m 40 #[.val (.int p0), .val (.int p1), .val (.int p2), .val (.int p3), .val (.int p4), .val (.int (3 : Int32)), .val (.long (3 : Int64)), .second, .val (.ref r), .unset, .unset, .unset, .unset, .unset, .unset] [(.int (3 : Int32))]))
    refine own_Go.st (fun _ kt => XS.iconst X15.here hx rfl (hb hby at_40) kt) ?_
    show own_Go p e below _ (T15.setTop (mkF m 41 #[.val (.int p0), .val (.int p1), .val (.int p2), .val (.int p3), .val (.int p4), .val (.int (3 : Int32)), .val (.long (3 : Int64)), .second, .val (.ref r), .unset, .unset, .unset, .unset, .unset, .unset] [(.int (1 : Int32)), (.int (3 : Int32))]))
    refine own_Go.st (fun _ kt => XS.icmpNo X15.here hx rfl (hb hby at_41) rfl (tlt (by decide)).2.2.2 kt) ?_
    show own_Go p e below _ (T15.setTop (mkF m 44 #[.val (.int p0), .val (.int p1), .val (.int p2), .val (.int p3), .val (.int p4), .val (.int (3 : Int32)), .val (.long (3 : Int64)), .second, .val (.ref r), .unset, .unset, .unset, .unset, .unset, .unset] []))
    refine own_Go.st (fun _ kt => XS.aload X15.here hx rfl (hb hby at_44) rfl rfl kt) ?_
    show own_Go p e below _ (T15.setTop (mkF m 46 #[.val (.int p0), .val (.int p1), .val (.int p2), .val (.int p3), .val (.int p4), .val (.int (3 : Int32)), .val (.long (3 : Int64)), .second, .val (.ref r), .unset, .unset, .unset, .unset, .unset, .unset] [(.ref r)]))
    refine own_Go.st (fun _ kt => XS.iconst X15.here hx rfl (hb hby at_46) kt) ?_
    show own_Go p e below _ (T15.setTop (mkF m 47 #[.val (.int p0), .val (.int p1), .val (.int p2), .val (.int p3), .val (.int p4), .val (.int (3 : Int32)), .val (.long (3 : Int64)), .second, .val (.ref r), .unset, .unset, .unset, .unset, .unset, .unset] [(.int (1 : Int32)), (.ref r)]))
    refine own_Go.st (fun _ kt => XS.lload X15.here hx rfl (hb hby at_47) rfl kt) ?_
    show own_Go p e below _ (T15.setTop (mkF m 49 #[.val (.int p0), .val (.int p1), .val (.int p2), .val (.int p3), .val (.int p4), .val (.int (3 : Int32)), .val (.long (3 : Int64)), .second, .val (.ref r), .unset, .unset, .unset, .unset, .unset, .unset] [(.long (3 : Int64)), (.int (1 : Int32)), (.ref r)]))
    refine own_Go.st (fun _ kt => XS.iloadN X15.here hx rfl (hb hby at_49) rfl kt) ?_
    show own_Go p e below _ (T15.setTop (mkF m 50 #[.val (.int p0), .val (.int p1), .val (.int p2), .val (.int p3), .val (.int p4), .val (.int (3 : Int32)), .val (.long (3 : Int64)), .second, .val (.ref r), .unset, .unset, .unset, .unset, .unset, .unset] [(.int p2), (.long (3 : Int64)), (.int (1 : Int32)), (.ref r)]))
    refine own_Go.st (fun _ kt => XS.i2l X15.here hx rfl (hb hby at_50) rfl kt) ?_
    show own_Go p e below _ (T15.setTop (mkF m 51 #[.val (.int p0), .val (.int p1), .val (.int p2), .val (.int p3), .val (.int p4), .val (.int (3 : Int32)), .val (.long (3 : Int64)), .second, .val (.ref r), .unset, .unset, .unset, .unset, .unset, .unset] [(.long (p2.toInt64)), (.long (3 : Int64)), (.int (1 : Int32)), (.ref r)]))
    refine own_Go.st (fun _ kt => XS.lmul X15.here hx rfl (hb hby at_51) rfl kt) ?_
    show own_Go p e below _ (T15.setTop (mkF m 52 #[.val (.int p0), .val (.int p1), .val (.int p2), .val (.int p3), .val (.int p4), .val (.int (3 : Int32)), .val (.long (3 : Int64)), .second, .val (.ref r), .unset, .unset, .unset, .unset, .unset, .unset] [(.long ((3 : Int64) * (p2.toInt64))), (.int (1 : Int32)), (.ref r)]))
    refine own_Go.st (fun _ kt => XS.l2dS X15.here hx rfl (hb hby at_52) rfl rfl kt) ?_
    show own_Go p e below _ (T15.setTop (mkF m 53 #[.val (.int p0), .val (.int p1), .val (.int p2), .val (.int p3), .val (.int p4), .val (.int (3 : Int32)), .val (.long (3 : Int64)), .second, .val (.ref r), .unset, .unset, .unset, .unset, .unset, .unset] [(.double (FP.l2d ((3 : Int64) * (p2.toInt64)))), (.int (1 : Int32)), (.ref r)]))
    obtain ⟨T17, h17, X17, e17, W17, st17⟩ := own_dst X15 hx hZ e15 a15 (i := 1) (by decide) (by decide) (g := (mkF m 53 #[.val (.int p0), .val (.int p1), .val (.int p2), .val (.int p3), .val (.int p4), .val (.int (3 : Int32)), .val (.long (3 : Int64)), .second, .val (.ref r), .unset, .unset, .unset, .unset, .unset, .unset] [(.double (FP.l2d ((3 : Int64) * (p2.toInt64)))), (.int (1 : Int32)), (.ref r)])) rfl rfl (hb hby at_53)
    refine own_Go.st st17 ?_
    have N17 := Fr.snoc X17 N15 n0_r
    have a17 := own_Ar.set a15 W17
    have zz18 : n0 ≤ Array.size h17 := Nat.le_trans zz16 (Nat.le_of_eq (Wr.size W17).symm)
    show own_Go p e below _ (T17.setTop (mkF m 54 #[.val (.int p0), .val (.int p1), .val (.int p2), .val (.int p3), .val (.int p4), .val (.int (3 : Int32)), .val (.long (3 : Int64)), .second, .val (.ref r), .unset, .unset, .unset, .unset, .unset, .unset] []))
    refine own_Go.st (fun _ kt => XS.iload X17.here hx rfl (hb hby at_54) rfl kt) ?_
    show own_Go p e below _ (T17.setTop (mkF m 56 #[.val (.int p0), .val (.int p1), .val (.int p2), .val (.int p3), .val (.int p4), .val (.int (3 : Int32)), .val (.long (3 : Int64)), .second, .val (.ref r), .unset, .unset, .unset, .unset, .unset, .unset] [(.int (3 : Int32))]))
    refine own_Go.st (fun _ kt => XS.iconst X17.here hx rfl (hb hby at_56) kt) ?_
    show own_Go p e below _ (T17.setTop (mkF m 57 #[.val (.int p0), .val (.int p1), .val (.int p2), .val (.int p3), .val (.int p4), .val (.int (3 : Int32)), .val (.long (3 : Int64)), .second, .val (.ref r), .unset, .unset, .unset, .unset, .unset, .unset] [(.int (2 : Int32)), (.int (3 : Int32))]))
    refine own_Go.st (fun _ kt => XS.icmpNo X17.here hx rfl (hb hby at_57) rfl (tlt (by decide)).2.2.2 kt) ?_
    show own_Go p e below _ (T17.setTop (mkF m 60 #[.val (.int p0), .val (.int p1), .val (.int p2), .val (.int p3), .val (.int p4), .val (.int (3 : Int32)), .val (.long (3 : Int64)), .second, .val (.ref r), .unset, .unset, .unset, .unset, .unset, .unset] []))
    refine own_Go.st (fun _ kt => XS.aload X17.here hx rfl (hb hby at_60) rfl rfl kt) ?_
    show own_Go p e below _ (T17.setTop (mkF m 62 #[.val (.int p0), .val (.int p1), .val (.int p2), .val (.int p3), .val (.int p4), .val (.int (3 : Int32)), .val (.long (3 : Int64)), .second, .val (.ref r), .unset, .unset, .unset, .unset, .unset, .unset] [(.ref r)]))
    refine own_Go.st (fun _ kt => XS.iconst X17.here hx rfl (hb hby at_62) kt) ?_
    show own_Go p e below _ (T17.setTop (mkF m 63 #[.val (.int p0), .val (.int p1), .val (.int p2), .val (.int p3), .val (.int p4), .val (.int (3 : Int32)), .val (.long (3 : Int64)), .second, .val (.ref r), .unset, .unset, .unset, .unset, .unset, .unset] [(.int (2 : Int32)), (.ref r)]))
    refine own_Go.st (fun _ kt => XS.lload X17.here hx rfl (hb hby at_63) rfl kt) ?_
    show own_Go p e below _ (T17.setTop (mkF m 65 #[.val (.int p0), .val (.int p1), .val (.int p2), .val (.int p3), .val (.int p4), .val (.int (3 : Int32)), .val (.long (3 : Int64)), .second, .val (.ref r), .unset, .unset, .unset, .unset, .unset, .unset] [(.long (3 : Int64)), (.int (2 : Int32)), (.ref r)]))
    refine own_Go.st (fun _ kt => XS.iloadN X17.here hx rfl (hb hby at_65) rfl kt) ?_
    show own_Go p e below _ (T17.setTop (mkF m 66 #[.val (.int p0), .val (.int p1), .val (.int p2), .val (.int p3), .val (.int p4), .val (.int (3 : Int32)), .val (.long (3 : Int64)), .second, .val (.ref r), .unset, .unset, .unset, .unset, .unset, .unset] [(.int p3), (.long (3 : Int64)), (.int (2 : Int32)), (.ref r)]))
    refine own_Go.st (fun _ kt => XS.i2l X17.here hx rfl (hb hby at_66) rfl kt) ?_
    show own_Go p e below _ (T17.setTop (mkF m 67 #[.val (.int p0), .val (.int p1), .val (.int p2), .val (.int p3), .val (.int p4), .val (.int (3 : Int32)), .val (.long (3 : Int64)), .second, .val (.ref r), .unset, .unset, .unset, .unset, .unset, .unset] [(.long (p3.toInt64)), (.long (3 : Int64)), (.int (2 : Int32)), (.ref r)]))
    refine own_Go.st (fun _ kt => XS.lmul X17.here hx rfl (hb hby at_67) rfl kt) ?_
    show own_Go p e below _ (T17.setTop (mkF m 68 #[.val (.int p0), .val (.int p1), .val (.int p2), .val (.int p3), .val (.int p4), .val (.int (3 : Int32)), .val (.long (3 : Int64)), .second, .val (.ref r), .unset, .unset, .unset, .unset, .unset, .unset] [(.long ((3 : Int64) * (p3.toInt64))), (.int (2 : Int32)), (.ref r)]))
    refine own_Go.st (fun _ kt => XS.l2dS X17.here hx rfl (hb hby at_68) rfl rfl kt) ?_
    show own_Go p e below _ (T17.setTop (mkF m 69 #[.val (.int p0), .val (.int p1), .val (.int p2), .val (.int p3), .val (.int p4), .val (.int (3 : Int32)), .val (.long (3 : Int64)), .second, .val (.ref r), .unset, .unset, .unset, .unset, .unset, .unset] [(.double (FP.l2d ((3 : Int64) * (p3.toInt64)))), (.int (2 : Int32)), (.ref r)]))
    obtain ⟨T19, h19, X19, e19, W19, st19⟩ := own_dst X17 hx hZ e17 a17 (i := 2) (by decide) (by decide) (g := (mkF m 69 #[.val (.int p0), .val (.int p1), .val (.int p2), .val (.int p3), .val (.int p4), .val (.int (3 : Int32)), .val (.long (3 : Int64)), .second, .val (.ref r), .unset, .unset, .unset, .unset, .unset, .unset] [(.double (FP.l2d ((3 : Int64) * (p3.toInt64)))), (.int (2 : Int32)), (.ref r)])) rfl rfl (hb hby at_69)
    refine own_Go.st st19 ?_
    have N19 := Fr.snoc X19 N17 n0_r
    have a19 := own_Ar.set a17 W19
    have zz20 : n0 ≤ Array.size h19 := Nat.le_trans zz18 (Nat.le_of_eq (Wr.size W19).symm)
    show own_Go p e below _ (T19.setTop (mkF m 70 #[.val (.int p0), .val (.int p1), .val (.int p2), .val (.int p3), .val (.int p4), .val (.int (3 : Int32)), .val (.long (3 : Int64)), .second, .val (.ref r), .unset, .unset, .unset, .unset, .unset, .unset] []))
    refine own_Go.st (fun _ kt => XS.iload X19.here hx rfl (hb hby at_70) rfl kt) ?_
    show own_Go p e below _ (T19.setTop (mkF m 72 #[.val (.int p0), .val (.int p1), .val (.int p2), .val (.int p3), .val (.int p4), .val (.int (3 : Int32)), .val (.long (3 : Int64)), .second, .val (.ref r), .unset, .unset, .unset, .unset, .unset, .unset] [(.int (3 : Int32))]))
    refine own_Go.st (fun _ kt => XS.iconst X19.here hx rfl (hb hby at_72) kt) ?_
    show own_Go p e below _ (T19.setTop (mkF m 73 #[.val (.int p0), .val (.int p1), .val (.int p2), .val (.int p3), .val (.int p4), .val (.int (3 : Int32)), .val (.long (3 : Int64)), .second, .val (.ref r), .unset, .unset, .unset, .unset, .unset, .unset] [(.int (3 : Int32)), (.int (3 : Int32))]))
    refine own_Go.st (fun _ kt => XS.icmpYes X19.here hx rfl (pc0 := 73) (pc' := 87) rfl (hb hby at_73) rfl (flt (by decide)).2.2.2 (by decide) (by decide) kt) ?_
    show own_Go p e below _ (T19.setTop (mkF m 87 #[.val (.int p0), .val (.int p1), .val (.int p2), .val (.int p3), .val (.int p4), .val (.int (3 : Int32)), .val (.long (3 : Int64)), .second, .val (.ref r), .unset, .unset, .unset, .unset, .unset, .unset] []))
    refine own_Go.st (fun _ kt => XS.iloadN X19.here hx rfl (hb hby at_87) rfl kt) ?_
    show own_Go p e below _ (T19.setTop (mkF m 88 #[.val (.int p0), .val (.int p1), .val (.int p2), .val (.int p3), .val (.int p4), .val (.int (3 : Int32)), .val (.long (3 : Int64)), .second, .val (.ref r), .unset, .unset, .unset, .unset, .unset, .unset] [(.int p1)]))
    refine own_Go.st (fun _ kt => XS.i2l X19.here hx rfl (hb hby at_88) rfl kt) ?_
    show own_Go p e below _ (T19.setTop (mkF m 89 #[.val (.int p0), .val (.int p1), .val (.int p2), .val (.int p3), .val (.int p4), .val (.int (3 : Int32)), .val (.long (3 : Int64)), .second, .val (.ref r), .unset, .unset, .unset, .unset, .unset, .unset] [(.long (p1.toInt64))]))
    refine own_Go.st (fun _ kt => XS.lstore X19.here hx rfl (hb hby at_89) rfl (l' := #[.val (.int p0), .val (.int p1), .val (.int p2), .val (.int p3), .val (.int p4), .val (.int (3 : Int32)), .val (.long (3 : Int64)), .second, .val (.ref r), .val (.long (p1.toInt64)), .second, .unset, .unset, .unset, .unset]) rfl kt) ?_
    show own_Go p e below _ (T19.setTop (mkF m 91 #[.val (.int p0), .val (.int p1), .val (.int p2), .val (.int p3), .val (.int p4), .val (.int (3 : Int32)), .val (.long (3 : Int64)), .second, .val (.ref r), .val (.long (p1.toInt64)), .second, .unset, .unset, .unset, .unset] []))
    refine own_Go.st (fun _ kt => XS.iload X19.here hx rfl (hb hby at_91) rfl kt) ?_
    show own_Go p e below _ (T19.setTop (mkF m 93 #[.val (.int p0), .val (.int p1), .val (.int p2), .val (.int p3), .val (.int p4), .val (.int (3 : Int32)), .val (.long (3 : Int64)), .second, .val (.ref r), .val (.long (p1.toInt64)), .second, .unset, .unset, .unset, .unset] [(.int (3 : Int32))]))
    refine own_Go.st (fun _ kt => XS.iconst X19.here hx rfl (hb hby at_93) kt) ?_
    show own_Go p e below _ (T19.setTop (mkF m 94 #[.val (.int p0), .val (.int p1), .val (.int p2), .val (.int p3), .val (.int p4), .val (.int (3 : Int32)), .val (.long (3 : Int64)), .second, .val (.ref r), .val (.long (p1.toInt64)), .second, .unset, .unset, .unset, .unset] [(.int (1 : Int32)), (.int (3 : Int32))]))
    refine own_Go.st (fun _ kt => XS.icmpNo X19.here hx rfl (hb hby at_94) rfl (tlt (by decide)).2.2.2 kt) ?_
    show own_Go p e below _ (T19.setTop (mkF m 97 #[.val (.int p0), .val (.int p1), .val (.int p2), .val (.int p3), .val (.int p4), .val (.int (3 : Int32)), .val (.long (3 : Int64)), .second, .val (.ref r), .val (.long (p1.toInt64)), .second, .unset, .unset, .unset, .unset] []))
    refine own_Go.st (fun _ kt => XS.lload X19.here hx rfl (hb hby at_97) rfl kt) ?_
    show own_Go p e below _ (T19.setTop (mkF m 99 #[.val (.int p0), .val (.int p1), .val (.int p2), .val (.int p3), .val (.int p4), .val (.int (3 : Int32)), .val (.long (3 : Int64)), .second, .val (.ref r), .val (.long (p1.toInt64)), .second, .unset, .unset, .unset, .unset] [(.long (p1.toInt64))]))
    refine own_Go.st (fun _ kt => XS.iloadN X19.here hx rfl (hb hby at_99) rfl kt) ?_
    show own_Go p e below _ (T19.setTop (mkF m 100 #[.val (.int p0), .val (.int p1), .val (.int p2), .val (.int p3), .val (.int p4), .val (.int (3 : Int32)), .val (.long (3 : Int64)), .second, .val (.ref r), .val (.long (p1.toInt64)), .second, .unset, .unset, .unset, .unset] [(.int p2), (.long (p1.toInt64))]))
    refine own_Go.st (fun _ kt => XS.i2l X19.here hx rfl (hb hby at_100) rfl kt) ?_
    show own_Go p e below _ (T19.setTop (mkF m 101 #[.val (.int p0), .val (.int p1), .val (.int p2), .val (.int p3), .val (.int p4), .val (.int (3 : Int32)), .val (.long (3 : Int64)), .second, .val (.ref r), .val (.long (p1.toInt64)), .second, .unset, .unset, .unset, .unset] [(.long (p2.toInt64)), (.long (p1.toInt64))]))
    refine own_Go.st (fun _ kt => XS.ladd X19.here hx rfl (hb hby at_101) rfl kt) ?_
    show own_Go p e below _ (T19.setTop (mkF m 102 #[.val (.int p0), .val (.int p1), .val (.int p2), .val (.int p3), .val (.int p4), .val (.int (3 : Int32)), .val (.long (3 : Int64)), .second, .val (.ref r), .val (.long (p1.toInt64)), .second, .unset, .unset, .unset, .unset] [(.long ((p1.toInt64) + (p2.toInt64)))]))
    refine own_Go.st (fun _ kt => XS.lstore X19.here hx rfl (hb hby at_102) rfl (l' := #[.val (.int p0), .val (.int p1), .val (.int p2), .val (.int p3), .val (.int p4), .val (.int (3 : Int32)), .val (.long (3 : Int64)), .second, .val (.ref r), .val (.long ((p1.toInt64) + (p2.toInt64))), .second, .unset, .unset, .unset, .unset]) rfl kt) ?_
    show own_Go p e below _ (T19.setTop (mkF m 104 #[.val (.int p0), .val (.int p1), .val (.int p2), .val (.int p3), .val (.int p4), .val (.int (3 : Int32)), .val (.long (3 : Int64)), .second, .val (.ref r), .val (.long ((p1.toInt64) + (p2.toInt64))), .second, .unset, .unset, .unset, .unset] []))
    refine own_Go.st (fun _ kt => XS.iload X19.here hx rfl (hb hby at_104) rfl kt) ?_
    show own_Go p e below _ (T19.setTop (mkF m 106 #[.val (.int p0), .val (.int p1), .val (.int p2), .val (.int p3), .val (.int p4), .val (.int (3 : Int32)), .val (.long (3 : Int64)), .second, .val (.ref r), .val (.long ((p1.toInt64) + (p2.toInt64))), .second, .unset, .unset, .unset, .unset] [(.int (3 : Int32))]))
    refine own_Go.st (fun _ kt => XS.iconst X19.here hx rfl (hb hby at_106) kt) ?_
    show own_Go p e below _ (T19.setTop (mkF m 107 #[.val (.int p0), .val (.int p1), .val (.int p2), .val (.int p3), .val (.int p4), .val (.int (3 : Int32)), .val (.long (3 : Int64)), .second, .val (.ref r), .val (.long ((p1.toInt64) + (p2.toInt64))), .second, .unset, .unset, .unset, .unset] [(.int (2 : Int32)), (.int (3 : Int32))]))
    refine own_Go.st (fun _ kt => XS.icmpNo X19.here hx rfl (hb hby at_107) rfl (tlt (by decide)).2.2.2 kt) ?_
    show own_Go p e below _ (T19.setTop (mkF m 110 #[.val (.int p0), .val (.int p1), .val (.int p2), .val (.int p3), .val (.int p4), .val (.int (3 : Int32)), .val (.long (3 : Int64)), .second, .val (.ref r), .val (.long ((p1.toInt64) + (p2.toInt64))), .second, .unset, .unset, .unset, .unset] []))
    refine own_Go.st (fun _ kt => XS.lload X19.here hx rfl (hb hby at_110) rfl kt) ?_
    show own_Go p e below _ (T19.setTop (mkF m 112 #[.val (.int p0), .val (.int p1), .val (.int p2), .val (.int p3), .val (.int p4), .val (.int (3 : Int32)), .val (.long (3 : Int64)), .second, .val (.ref r), .val (.long ((p1.toInt64) + (p2.toInt64))), .second, .unset, .unset, .unset, .unset] [(.long ((p1.toInt64) + (p2.toInt64)))]))
    refine own_Go.st (fun _ kt => XS.iloadN X19.here hx rfl (hb hby at_112) rfl kt) ?_
    show own_Go p e below _ (T19.setTop (mkF m 113 #[.val (.int p0), .val (.int p1), .val (.int p2), .val (.int p3), .val (.int p4), .val (.int (3 : Int32)), .val (.long (3 : Int64)), .second, .val (.ref r), .val (.long ((p1.toInt64) + (p2.toInt64))), .second, .unset, .unset, .unset, .unset] [(.int p3), (.long ((p1.toInt64) + (p2.toInt64)))]))
    refine own_Go.st (fun _ kt => XS.i2l X19.here hx rfl (hb hby at_113) rfl kt) ?_
    show own_Go p e below _ (T19.setTop (mkF m 114 #[.val (.int p0), .val (.int p1), .val (.int p2), .val (.int p3), .val (.int p4), .val (.int (3 : Int32)), .val (.long (3 : Int64)), .second, .val (.ref r), .val (.long ((p1.toInt64) + (p2.toInt64))), .second, .unset, .unset, .unset, .unset] [(.long (p3.toInt64)), (.long ((p1.toInt64) + (p2.toInt64)))]))
    refine own_Go.st (fun _ kt => XS.ladd X19.here hx rfl (hb hby at_114) rfl kt) ?_
    show own_Go p e below _ (T19.setTop (mkF m 115 #[.val (.int p0), .val (.int p1), .val (.int p2), .val (.int p3), .val (.int p4), .val (.int (3 : Int32)), .val (.long (3 : Int64)), .second, .val (.ref r), .val (.long ((p1.toInt64) + (p2.toInt64))), .second, .unset, .unset, .unset, .unset] [(.long (((p1.toInt64) + (p2.toInt64)) + (p3.toInt64)))]))
    refine own_Go.st (fun _ kt => XS.lstore X19.here hx rfl (hb hby at_115) rfl (l' := #[.val (.int p0), .val (.int p1), .val (.int p2), .val (.int p3), .val (.int p4), .val (.int (3 : Int32)), .val (.long (3 : Int64)), .second, .val (.ref r), .val (.long (((p1.toInt64) + (p2.toInt64)) + (p3.toInt64))), .second, .unset, .unset, .unset, .unset]) rfl kt) ?_
    show own_Go p e below _ (T19.setTop (mkF m 117 #[.val (.int p0), .val (.int p1), .val (.int p2), .val (.int p3), .val (.int p4), .val (.int (3 : Int32)), .val (.long (3 : Int64)), .second, .val (.ref r), .val (.long (((p1.toInt64) + (p2.toInt64)) + (p3.toInt64))), .second, .unset, .unset, .unset, .unset] []))
    refine own_Go.st (fun _ kt => XS.iload X19.here hx rfl (hb hby at_117) rfl kt) ?_
    show own_Go p e below _ (T19.setTop (mkF m 119 #[.val (.int p0), .val (.int p1), .val (.int p2), .val (.int p3), .val (.int p4), .val (.int (3 : Int32)), .val (.long (3 : Int64)), .second, .val (.ref r), .val (.long (((p1.toInt64) + (p2.toInt64)) + (p3.toInt64))), .second, .unset, .unset, .unset, .unset] [(.int (3 : Int32))]))
    refine own_Go.st (fun _ kt => XS.iconst X19.here hx rfl (hb hby at_119) kt) ?_
    show own_Go p e below _ (T19.setTop (mkF m 120 #[.val (.int p0), .val (.int p1), .val (.int p2), .val (.int p3), .val (.int p4), .val (.int (3 : Int32)), .val (.long (3 : Int64)), .second, .val (.ref r), .val (.long (((p1.toInt64) + (p2.toInt64)) + (p3.toInt64))), .second, .unset, .unset, .unset, .unset] [(.int (3 : Int32)), (.int (3 : Int32))]))
    refine own_Go.st (fun _ kt => XS.icmpYes X19.here hx rfl (pc0 := 120) (pc' := 131) rfl (hb hby at_120) rfl (flt (by decide)).2.2.2 (by decide) (by decide) kt) ?_
    show own_Go p e below _ (T19.setTop (mkF m 131 #[.val (.int p0), .val (.int p1), .val (.int p2), .val (.int p3), .val (.int p4), .val (.int (3 : Int32)), .val (.long (3 : Int64)), .second, .val (.ref r), .val (.long (((p1.toInt64) + (p2.toInt64)) + (p3.toInt64))), .second, .unset, .unset, .unset, .unset] []))
    refine own_Go.st (fun _ kt => XS.iload X19.here hx rfl (hb hby at_131) rfl kt) ?_
    show own_Go p e below _ (T19.setTop (mkF m 133 #[.val (.int p0), .val (.int p1), .val (.int p2), .val (.int p3), .val (.int p4), .val (.int (3 : Int32)), .val (.long (3 : Int64)), .second, .val (.ref r), .val (.long (((p1.toInt64) + (p2.toInt64)) + (p3.toInt64))), .second, .unset, .unset, .unset, .unset] [(.int (3 : Int32))]))
    refine own_Go.st (fun _ kt => XS.iconst X19.here hx rfl (hb hby at_133) kt) ?_
    show own_Go p e below _ (T19.setTop (mkF m 134 #[.val (.int p0), .val (.int p1), .val (.int p2), .val (.int p3), .val (.int p4), .val (.int (3 : Int32)), .val (.long (3 : Int64)), .second, .val (.ref r), .val (.long (((p1.toInt64) + (p2.toInt64)) + (p3.toInt64))), .second, .unset, .unset, .unset, .unset] [(.int (3 : Int32)), (.int (3 : Int32))]))
    refine own_Go.st (fun _ kt => XS.icmpNo X19.here hx rfl (hb hby at_134) rfl (teq (by decide)).2 kt) ?_
    show own_Go p e below _ (T19.setTop (mkF m 137 #[.val (.int p0), .val (.int p1), .val (.int p2), .val (.int p3), .val (.int p4), .val (.int (3 : Int32)), .val (.long (3 : Int64)), .second, .val (.ref r), .val (.long (((p1.toInt64) + (p2.toInt64)) + (p3.toInt64))), .second, .unset, .unset, .unset, .unset] []))
    refine own_Go.st (fun _ kt => XS.lload X19.here hx rfl (hb hby at_137) rfl kt) ?_
    show own_Go p e below _ (T19.setTop (mkF m 139 #[.val (.int p0), .val (.int p1), .val (.int p2), .val (.int p3), .val (.int p4), .val (.int (3 : Int32)), .val (.long (3 : Int64)), .second, .val (.ref r), .val (.long (((p1.toInt64) + (p2.toInt64)) + (p3.toInt64))), .second, .unset, .unset, .unset, .unset] [(.long (((p1.toInt64) + (p2.toInt64)) + (p3.toInt64)))]))
    refine own_Go.st (fun _ kt => XS.l2dS X19.here hx rfl (hb hby at_139) rfl rfl kt) ?_
    show own_Go p e below _ (T19.setTop (mkF m 140 #[.val (.int p0), .val (.int p1), .val (.int p2), .val (.int p3), .val (.int p4), .val (.int (3 : Int32)), .val (.long (3 : Int64)), .second, .val (.ref r), .val (.long (((p1.toInt64) + (p2.toInt64)) + (p3.toInt64))), .second, .unset, .unset, .unset, .unset] [(.double (FP.l2d (((p1.toInt64) + (p2.toInt64)) + (p3.toInt64))))]))
    refine own_Go.st (fun _ kt => XS.goto X19.here hx rfl (pc0 := 140) (pc' := 150) rfl (hb hby at_140) (by decide) (by decide) kt) ?_
    show own_Go p e below _ (T19.setTop (mkF m 150 #[.val (.int p0), .val (.int p1), .val (.int p2), .val (.int p3), .val (.int p4), .val (.int (3 : Int32)), .val (.long (3 : Int64)), .second, .val (.ref r), .val (.long (((p1.toInt64) + (p2.toInt64)) + (p3.toInt64))), .second, .unset, .unset, .unset, .unset] [(.double (FP.l2d (((p1.toInt64) + (p2.toInt64)) + (p3.toInt64))))]))
    refine own_Go.st (fun _ kt => XS.dstore X19.here hx rfl (hb hby at_150) rfl (l' := #[.val (.int p0), .val (.int p1), .val (.int p2), .val (.int p3), .val (.int p4), .val (.int (3 : Int32)), .val (.long (3 : Int64)), .second, .val (.ref r), .val (.long (((p1.toInt64) + (p2.toInt64)) + (p3.toInt64))), .second, .val (.double (FP.l2d (((p1.toInt64) + (p2.toInt64)) + (p3.toInt64)))), .second, .unset, .unset]) rfl kt) ?_
    show own_Go p e below _ (T19.setTop (mkF m 152 #[.val (.int p0), .val (.int p1), .val (.int p2), .val (.int p3), .val (.int p4), .val (.int (3 : Int32)), .val (.long (3 : Int64)), .second, .val (.ref r), .val (.long (((p1.toInt64) + (p2.toInt64)) + (p3.toInt64))), .second, .val (.double (FP.l2d (((p1.toInt64) + (p2.toInt64)) + (p3.toInt64)))), .second, .unset, .unset] []))
    refine own_Go.st (fun _ kt => XS.aload X19.here hx rfl (hb hby at_152) rfl rfl kt) ?_
    show own_Go p e below _ (T19.setTop (mkF m 154 #[.val (.int p0), .val (.int p1), .val (.int p2), .val (.int p3), .val (.int p4), .val (.int (3 : Int32)), .val (.long (3 : Int64)), .second, .val (.ref r), .val (.long (((p1.toInt64) + (p2.toInt64)) + (p3.toInt64))), .second, .val (.double (FP.l2d (((p1.toInt64) + (p2.toInt64)) + (p3.toInt64)))), .second, .unset, .unset] [(.ref r)]))
    have ar := own_Ar.congr (f' := fun j => .double (own_pick (FP.l2d ((3 : Int64) * p1.toInt64)) (FP.l2d ((3 : Int64) * p2.toInt64)) (FP.l2d ((3 : Int64) * p3.toInt64)) (FP.l2d ((3 : Int64) * p4.toInt64)) j)) a19 (fun j hj => by
      have : j = 0 ∨ j = 1 ∨ j = 2 := by omega
      rcases this with rfl | rfl | rfl <;> rfl)
    have hS : own_sum (fun j => (own_pick p1 p2 p3 p4 j).toInt) 3 = p1.toInt + p2.toInt + p3.toInt := by simp [own_sum, own_pick]
    have q1 := own_abs32 p1
    have q2 := own_abs32 p2
    have q3 := own_abs32 p3
    have q4 := own_abs32 p4
    have t1 : p1.toInt64.toInt = p1.toInt := c_i2l p1
    have t2 := own_add64 (b := p2) t1 (by omega)
    have t3 := own_add64 (b := p3) t2 (by omega)
    have hwx : own_D (FP.l2d ((p1.toInt64 + p2.toInt64) + p3.toInt64)) ((p1.toInt + p2.toInt + p3.toInt) * ((2 ^ 1074 : Nat) : Int)) := by
      have q := own_l2d (a := ((p1.toInt64 + p2.toInt64) + p3.toInt64)) (by rw [t3]; omega)
      rw [t3] at q
      exact q
    obtain ⟨_, _, ⟨T21, L21, k21, n21⟩, -, X21, ⟨Lc21, hQ21, l21, y21, z21⟩, st21⟩ := Jvm.LawKit.callS X19 hx (y := (⟨"com/example/wallingford/wallingford/statistics/SampleStatistics", "mean", "([D)D"⟩ : MethodName)) hown (mvT hZ (hw _ (List.mem_of_getElem? (i := 1) rfl))) (mvT hZ (hw _ (List.mem_of_getElem? (i := 2) rfl))) (mvT hZ (hw _ (List.mem_of_getElem? (i := 3) rfl))) (mvT hZ (hw _ (List.mem_of_getElem? (i := 4) rfl))) (by decide) (backOf (W := 0) (own_mean l Z a0 hw [] r (3 : Int32) 3 1074 (own_pick (FP.l2d ((3 : Int64) * p1.toInt64)) (FP.l2d ((3 : Int64) * p2.toInt64)) (FP.l2d ((3 : Int64) * p3.toInt64)) (FP.l2d ((3 : Int64) * p4.toInt64))) (fun j => (own_pick p1 p2 p3 p4 j).toInt) h19 n0 zz20 ar (by decide) (by decide) (by decide) (fun j => own_abs32 _) (fun j hj => by
      have : j = 0 ∨ j = 1 ∨ j = 2 := by omega
      rcases this with rfl | rfl | rfl <;> exact own_share (k := (3 : Int64)) (xn := 3) (n := 3) (m := 3) (by decide) (by decide) (by decide) (by decide) (by decide) own_e3 _)) hZ (hw _ (List.mem_of_getElem? (i := 4) rfl)) (hw _ (List.mem_of_getElem? (i := 3) rfl)) (by decide) (by decide)) (g := (mkF m 154 #[.val (.int p0), .val (.int p1), .val (.int p2), .val (.int p3), .val (.int p4), .val (.int (3 : Int32)), .val (.long (3 : Int64)), .second, .val (.ref r), .val (.long (((p1.toInt64) + (p2.toInt64)) + (p3.toInt64))), .second, .val (.double (FP.l2d (((p1.toInt64) + (p2.toInt64)) + (p3.toInt64)))), .second, .unset, .unset] [(.ref r)])) rfl (by rw [hml]; rfl) (argsL := [(.ref r)]) (rest := []) (lenOf own_pd0 rfl) rfl (by show 2 * 0 + _ ≤ _; exact Nat.le_of_eq rfl) (hb hby at_154) (fun _ _ => ⟨rfl, e19, (by decide : 1 + 0 ≤ _), (by decide : 4 + 0 ≤ _)⟩)
    dsimp only [Pt.U, Pt.locs, Pt.cells, Pt.slots] at X21 l21 y21 z21 st21 hQ21
    subst l21 y21 z21
    obtain ⟨d, rfl, N21q, hd21, hh21⟩ := hQ21
    have N21 := Fr.app N19 N21q
    refine own_Go.st (fun _ kt => st21 _ kt) ?_
    show own_Go p e below _ (T21.setTop (mkF m 157 #[.val (.int p0), .val (.int p1), .val (.int p2), .val (.int p3), .val (.int p4), .val (.int (3 : Int32)), .val (.long (3 : Int64)), .second, .val (.ref r), .val (.long (((p1.toInt64) + (p2.toInt64)) + (p3.toInt64))), .second, .val (.double (FP.l2d (((p1.toInt64) + (p2.toInt64)) + (p3.toInt64)))), .second, .unset, .unset] [(.double d)]))
    rw [hS] at hd21
    refine own_Go.st (fun _ kt => XS.dstore X21.here hx rfl (hb hby at_157) rfl (l' := #[.val (.int p0), .val (.int p1), .val (.int p2), .val (.int p3), .val (.int p4), .val (.int (3 : Int32)), .val (.long (3 : Int64)), .second, .val (.ref r), .val (.long (((p1.toInt64) + (p2.toInt64)) + (p3.toInt64))), .second, .val (.double (FP.l2d (((p1.toInt64) + (p2.toInt64)) + (p3.toInt64)))), .second, .val (.double d), .second]) rfl kt) ?_
    show own_Go p e below _ (T21.setTop (mkF m 159 #[.val (.int p0), .val (.int p1), .val (.int p2), .val (.int p3), .val (.int p4), .val (.int (3 : Int32)), .val (.long (3 : Int64)), .second, .val (.ref r), .val (.long (((p1.toInt64) + (p2.toInt64)) + (p3.toInt64))), .second, .val (.double (FP.l2d (((p1.toInt64) + (p2.toInt64)) + (p3.toInt64)))), .second, .val (.double d), .second] []))
    refine own_Go.st (fun _ kt => XS.dload X21.here hx rfl (hb hby at_159) rfl kt) ?_
    show own_Go p e below _ (T21.setTop (mkF m 161 #[.val (.int p0), .val (.int p1), .val (.int p2), .val (.int p3), .val (.int p4), .val (.int (3 : Int32)), .val (.long (3 : Int64)), .second, .val (.ref r), .val (.long (((p1.toInt64) + (p2.toInt64)) + (p3.toInt64))), .second, .val (.double (FP.l2d (((p1.toInt64) + (p2.toInt64)) + (p3.toInt64)))), .second, .val (.double d), .second] [(.double d)]))
    refine own_Go.st (fun _ kt => XS.dload X21.here hx rfl (hb hby at_161) rfl kt) ?_
    show own_Go p e below _ (T21.setTop (mkF m 163 #[.val (.int p0), .val (.int p1), .val (.int p2), .val (.int p3), .val (.int p4), .val (.int (3 : Int32)), .val (.long (3 : Int64)), .second, .val (.ref r), .val (.long (((p1.toInt64) + (p2.toInt64)) + (p3.toInt64))), .second, .val (.double (FP.l2d (((p1.toInt64) + (p2.toInt64)) + (p3.toInt64)))), .second, .val (.double d), .second] [(.double (FP.l2d (((p1.toInt64) + (p2.toInt64)) + (p3.toInt64)))), (.double d)]))
    refine own_Go.st (fun _ kt => XS.dcmpS X21.here hx rfl (hb hby at_163) rfl (own_deq hd21 hwx _) kt) ?_
    show own_Go p e below _ (T21.setTop (mkF m 164 #[.val (.int p0), .val (.int p1), .val (.int p2), .val (.int p3), .val (.int p4), .val (.int (3 : Int32)), .val (.long (3 : Int64)), .second, .val (.ref r), .val (.long (((p1.toInt64) + (p2.toInt64)) + (p3.toInt64))), .second, .val (.double (FP.l2d (((p1.toInt64) + (p2.toInt64)) + (p3.toInt64)))), .second, .val (.double d), .second] [(.int (0 : Int32))]))
    refine own_Go.st (fun _ kt => XS.ifNo X21.here hx rfl (hb hby at_164) rfl ((if0 _ _).trans (teq rfl).2) kt) ?_
    show own_Go p e below _ (T21.setTop (mkF m 167 #[.val (.int p0), .val (.int p1), .val (.int p2), .val (.int p3), .val (.int p4), .val (.int (3 : Int32)), .val (.long (3 : Int64)), .second, .val (.ref r), .val (.long (((p1.toInt64) + (p2.toInt64)) + (p3.toInt64))), .second, .val (.double (FP.l2d (((p1.toInt64) + (p2.toInt64)) + (p3.toInt64)))), .second, .val (.double d), .second] []))
    refine own_Go.st (fun _ kt => XS.iconst X21.here hx rfl (hb hby at_167) kt) ?_
    show own_Go p e below _ (T21.setTop (mkF m 168 #[.val (.int p0), .val (.int p1), .val (.int p2), .val (.int p3), .val (.int p4), .val (.int (3 : Int32)), .val (.long (3 : Int64)), .second, .val (.ref r), .val (.long (((p1.toInt64) + (p2.toInt64)) + (p3.toInt64))), .second, .val (.double (FP.l2d (((p1.toInt64) + (p2.toInt64)) + (p3.toInt64)))), .second, .val (.double d), .second] [(.int (1 : Int32))]))
    refine own_Go.st (fun _ kt => XS.goto X21.here hx rfl (pc0 := 168) (pc' := 172) rfl (hb hby at_168) (by decide) (by decide) kt) ?_
    show own_Go p e below _ (T21.setTop (mkF m 172 #[.val (.int p0), .val (.int p1), .val (.int p2), .val (.int p3), .val (.int p4), .val (.int (3 : Int32)), .val (.long (3 : Int64)), .second, .val (.ref r), .val (.long (((p1.toInt64) + (p2.toInt64)) + (p3.toInt64))), .second, .val (.double (FP.l2d (((p1.toInt64) + (p2.toInt64)) + (p3.toInt64)))), .second, .val (.double d), .second] [(.int (1 : Int32))]))
    exact own_retZ X21 hx Bd.notSynchronized Bd.returns (Or.inr rfl) (hb hby at_172) (by decide) (by decide) ⟨rfl, N21⟩
  · show own_Go p e below _ (s₁.setTop (mkF m 5 #[.val (.int p0), .val (.int p1), .val (.int p2), .val (.int p3), .val (.int p4), .unset, .unset, .unset, .unset, .unset, .unset, .unset, .unset, .unset, .unset] [(.int (4 : Int32))]))
    refine own_Go.st (fun _ kt => XS.istore X0.here hx rfl (hb hby at_5) rfl (l' := #[.val (.int p0), .val (.int p1), .val (.int p2), .val (.int p3), .val (.int p4), .val (.int (4 : Int32)), .unset, .unset, .unset, .unset, .unset, .unset, .unset, .unset, .unset]) rfl kt) ?_
    show own_Go p e below _ (s₁.setTop (mkF m 7 #[.val (.int p0), .val (.int p1), .val (.int p2), .val (.int p3), .val (.int p4), .val (.int (4 : Int32)), .unset, .unset, .unset, .unset, .unset, .unset, .unset, .unset, .unset] []))
    refine own_Go.st (fun _ kt => XS.iload X0.here hx rfl (hb hby at_7) rfl kt) ?_
    show own_Go p e below _ (s₁.setTop (mkF m 9 #[.val (.int p0), .val (.int p1), .val (.int p2), .val (.int p3), .val (.int p4), .val (.int (4 : Int32)), .unset, .unset, .unset, .unset, .unset, .unset, .unset, .unset, .unset] [(.int (4 : Int32))]))
    refine own_Go.st (fun _ kt => XS.iconst X0.here hx rfl (hb hby at_9) kt) ?_
    show own_Go p e below _ (s₁.setTop (mkF m 10 #[.val (.int p0), .val (.int p1), .val (.int p2), .val (.int p3), .val (.int p4), .val (.int (4 : Int32)), .unset, .unset, .unset, .unset, .unset, .unset, .unset, .unset, .unset] [(.int (3 : Int32)), (.int (4 : Int32))]))
    refine own_Go.st (fun _ kt => XS.icmpYes X0.here hx rfl (pc0 := 10) (pc' := 19) rfl (hb hby at_10) rfl (feq (by decide)).2 (by decide) (by decide) kt) ?_
    show own_Go p e below _ (s₁.setTop (mkF m 19 #[.val (.int p0), .val (.int p1), .val (.int p2), .val (.int p3), .val (.int p4), .val (.int (4 : Int32)), .unset, .unset, .unset, .unset, .unset, .unset, .unset, .unset, .unset] []))
    refine own_Go.st (fun _ kt => XS.lconst X0.here hx rfl (hb hby at_19) kt) ?_
    show own_Go p e below _ (s₁.setTop (mkF m 20 #[.val (.int p0), .val (.int p1), .val (.int p2), .val (.int p3), .val (.int p4), .val (.int (4 : Int32)), .unset, .unset, .unset, .unset, .unset, .unset, .unset, .unset, .unset] [(.long (1 : Int64))]))
    refine own_Go.st (fun _ kt => XS.lstore X0.here hx rfl (hb hby at_20) rfl (l' := #[.val (.int p0), .val (.int p1), .val (.int p2), .val (.int p3), .val (.int p4), .val (.int (4 : Int32)), .val (.long (1 : Int64)), .second, .unset, .unset, .unset, .unset, .unset, .unset, .unset]) rfl kt) ?_
    show own_Go p e below _ (s₁.setTop (mkF m 22 #[.val (.int p0), .val (.int p1), .val (.int p2), .val (.int p3), .val (.int p4), .val (.int (4 : Int32)), .val (.long (1 : Int64)), .second, .unset, .unset, .unset, .unset, .unset, .unset, .unset] []))
    refine own_Go.st (fun _ kt => XS.iload X0.here hx rfl (hb hby at_22) rfl kt) ?_
    show own_Go p e below _ (s₁.setTop (mkF m 24 #[.val (.int p0), .val (.int p1), .val (.int p2), .val (.int p3), .val (.int p4), .val (.int (4 : Int32)), .val (.long (1 : Int64)), .second, .unset, .unset, .unset, .unset, .unset, .unset, .unset] [(.int (4 : Int32))]))
    obtain ⟨T22, h22, k22, X22, e22, E22, A22, st22⟩ := newP X0 hx hZ (hw _ (List.mem_of_getElem? (i := 0) rfl)) e0 (g := (mkF m 24 #[.val (.int p0), .val (.int p1), .val (.int p2), .val (.int p3), .val (.int p4), .val (.int (4 : Int32)), .val (.long (1 : Int64)), .second, .unset, .unset, .unset, .unset, .unset, .unset, .unset] [(.int (4 : Int32))])) rfl (hb hby at_24) rfl (by decide) (cap := 4) (by decide) (by decide) (by decide) (by decide)
    obtain ⟨r, g22⟩ : ∃ z, z = Array.size h0 := ⟨_, rfl⟩
    rw [← g22] at A22 st22
    refine own_Go.st st22 ?_
    have n0_r : n0 ≤ r := Nat.le_trans Z0 (Nat.le_of_eq g22.symm)
    have zz23 : n0 ≤ Array.size h22 := Nat.le_trans Z0 E22.1
    show own_Go p e below _ (T22.setTop (mkF m 26 #[.val (.int p0), .val (.int p1), .val (.int p2), .val (.int p3), .val (.int p4), .val (.int (4 : Int32)), .val (.long (1 : Int64)), .second, .unset, .unset, .unset, .unset, .unset, .unset, .unset] [(.ref r)]))
    have a0r := own_Ar.new A22 (n := 4) (by decide)
    refine own_Go.st (fun _ kt => XS.astore X22.here hx rfl (hb hby at_26) rfl rfl (l' := #[.val (.int p0), .val (.int p1), .val (.int p2), .val (.int p3), .val (.int p4), .val (.int (4 : Int32)), .val (.long (1 : Int64)), .second, .val (.ref r), .unset, .unset, .unset, .unset, .unset, .unset]) rfl kt) ?_
    show own_Go p e below _ (T22.setTop (mkF m 28 #[.val (.int p0), .val (.int p1), .val (.int p2), .val (.int p3), .val (.int p4), .val (.int (4 : Int32)), .val (.long (1 : Int64)), .second, .val (.ref r), .unset, .unset, .unset, .unset, .unset, .unset] []))
    refine own_Go.st (fun _ kt => XS.aload X22.here hx rfl (hb hby at_28) rfl rfl kt) ?_
    show own_Go p e below _ (T22.setTop (mkF m 30 #[.val (.int p0), .val (.int p1), .val (.int p2), .val (.int p3), .val (.int p4), .val (.int (4 : Int32)), .val (.long (1 : Int64)), .second, .val (.ref r), .unset, .unset, .unset, .unset, .unset, .unset] [(.ref r)]))
    refine own_Go.st (fun _ kt => XS.iconst X22.here hx rfl (hb hby at_30) kt) ?_
    show own_Go p e below _ (T22.setTop (mkF m 31 #[.val (.int p0), .val (.int p1), .val (.int p2), .val (.int p3), .val (.int p4), .val (.int (4 : Int32)), .val (.long (1 : Int64)), .second, .val (.ref r), .unset, .unset, .unset, .unset, .unset, .unset] [(.int (0 : Int32)), (.ref r)]))
    refine own_Go.st (fun _ kt => XS.lload X22.here hx rfl (hb hby at_31) rfl kt) ?_
    show own_Go p e below _ (T22.setTop (mkF m 33 #[.val (.int p0), .val (.int p1), .val (.int p2), .val (.int p3), .val (.int p4), .val (.int (4 : Int32)), .val (.long (1 : Int64)), .second, .val (.ref r), .unset, .unset, .unset, .unset, .unset, .unset] [(.long (1 : Int64)), (.int (0 : Int32)), (.ref r)]))
    refine own_Go.st (fun _ kt => XS.iloadN X22.here hx rfl (hb hby at_33) rfl kt) ?_
    show own_Go p e below _ (T22.setTop (mkF m 34 #[.val (.int p0), .val (.int p1), .val (.int p2), .val (.int p3), .val (.int p4), .val (.int (4 : Int32)), .val (.long (1 : Int64)), .second, .val (.ref r), .unset, .unset, .unset, .unset, .unset, .unset] [(.int p1), (.long (1 : Int64)), (.int (0 : Int32)), (.ref r)]))
    refine own_Go.st (fun _ kt => XS.i2l X22.here hx rfl (hb hby at_34) rfl kt) ?_
    show own_Go p e below _ (T22.setTop (mkF m 35 #[.val (.int p0), .val (.int p1), .val (.int p2), .val (.int p3), .val (.int p4), .val (.int (4 : Int32)), .val (.long (1 : Int64)), .second, .val (.ref r), .unset, .unset, .unset, .unset, .unset, .unset] [(.long (p1.toInt64)), (.long (1 : Int64)), (.int (0 : Int32)), (.ref r)]))
    refine own_Go.st (fun _ kt => XS.lmul X22.here hx rfl (hb hby at_35) rfl kt) ?_
    show own_Go p e below _ (T22.setTop (mkF m 36 #[.val (.int p0), .val (.int p1), .val (.int p2), .val (.int p3), .val (.int p4), .val (.int (4 : Int32)), .val (.long (1 : Int64)), .second, .val (.ref r), .unset, .unset, .unset, .unset, .unset, .unset] [(.long ((1 : Int64) * (p1.toInt64))), (.int (0 : Int32)), (.ref r)]))
    refine own_Go.st (fun _ kt => XS.l2dS X22.here hx rfl (hb hby at_36) rfl rfl kt) ?_
    show own_Go p e below _ (T22.setTop (mkF m 37 #[.val (.int p0), .val (.int p1), .val (.int p2), .val (.int p3), .val (.int p4), .val (.int (4 : Int32)), .val (.long (1 : Int64)), .second, .val (.ref r), .unset, .unset, .unset, .unset, .unset, .unset] [(.double (FP.l2d ((1 : Int64) * (p1.toInt64)))), (.int (0 : Int32)), (.ref r)]))
    obtain ⟨T24, h24, X24, e24, W24, st24⟩ := own_dst X22 hx hZ e22 a0r (i := 0) (by decide) (by decide) (g := (mkF m 37 #[.val (.int p0), .val (.int p1), .val (.int p2), .val (.int p3), .val (.int p4), .val (.int (4 : Int32)), .val (.long (1 : Int64)), .second, .val (.ref r), .unset, .unset, .unset, .unset, .unset, .unset] [(.double (FP.l2d ((1 : Int64) * (p1.toInt64)))), (.int (0 : Int32)), (.ref r)])) rfl rfl (hb hby at_37)
    refine own_Go.st st24 ?_
    have N24 := Fr.snoc X24 N0 n0_r
    have a24 := own_Ar.set a0r W24
    have zz25 : n0 ≤ Array.size h24 := Nat.le_trans zz23 (Nat.le_of_eq (Wr.size W24).symm)
    show own_Go p e below _ (T24.setTop (mkF m 38 #[.val (.int p0), .val (.int p1), .val (.int p2), .val (.int p3), .val (.int p4), .val (.int (4 : Int32)), .val (.long (1 : Int64)), .second, .val (.ref r), .unset, .unset, .unset, .unset, .unset, .unset] []))
    refine own_Go.st (fun _ kt => XS.iload X24.here hx rfl (hb hby at_38) rfl kt) ?_
    show own_Go p e below _ (T24.setTop (mkF m 40 #[.val (.int p0), .val (.int p1), .val (.int p2), .val (.int p3), .val (.int p4), .val (.int (4 : Int32)), .val (.long (1 : Int64)), .second, .val (.ref r), .unset, .unset, .unset, .unset, .unset, .unset] [(.int (4 : Int32))]))
    refine own_Go.st (fun _ kt => XS.iconst X24.here hx rfl (hb hby at_40) kt) ?_
    show own_Go p e below _ (T24.setTop (mkF m 41 #[.val (.int p0), .val (.int p1), .val (.int p2), .val (.int p3), .val (.int p4), .val (.int (4 : Int32)), .val (.long (1 : Int64)), .second, .val (.ref r), .unset, .unset, .unset, .unset, .unset, .unset] [(.int (1 : Int32)), (.int (4 : Int32))]))
    refine own_Go.st (fun _ kt => XS.icmpNo X24.here hx rfl (hb hby at_41) rfl (tlt (by decide)).2.2.2 kt) ?_
    show own_Go p e below _ (T24.setTop (mkF m 44 #[.val (.int p0), .val (.int p1), .val (.int p2), .val (.int p3), .val (.int p4), .val (.int (4 : Int32)), .val (.long (1 : Int64)), .second, .val (.ref r), .unset, .unset, .unset, .unset, .unset, .unset] []))
    refine own_Go.st (fun _ kt => XS.aload X24.here hx rfl (hb hby at_44) rfl rfl kt) ?_
    show own_Go p e below _ (T24.setTop (mkF m 46 #[.val (.int p0), .val (.int p1), .val (.int p2), .val (.int p3), .val (.int p4), .val (.int (4 : Int32)), .val (.long (1 : Int64)), .second, .val (.ref r), .unset, .unset, .unset, .unset, .unset, .unset] [(.ref r)]))
    refine own_Go.st (fun _ kt => XS.iconst X24.here hx rfl (hb hby at_46) kt) ?_
    show own_Go p e below _ (T24.setTop (mkF m 47 #[.val (.int p0), .val (.int p1), .val (.int p2), .val (.int p3), .val (.int p4), .val (.int (4 : Int32)), .val (.long (1 : Int64)), .second, .val (.ref r), .unset, .unset, .unset, .unset, .unset, .unset] [(.int (1 : Int32)), (.ref r)]))
    refine own_Go.st (fun _ kt => XS.lload X24.here hx rfl (hb hby at_47) rfl kt) ?_
    show own_Go p e below _ (T24.setTop (mkF m 49 #[.val (.int p0), .val (.int p1), .val (.int p2), .val (.int p3), .val (.int p4), .val (.int (4 : Int32)), .val (.long (1 : Int64)), .second, .val (.ref r), .unset, .unset, .unset, .unset, .unset, .unset] [(.long (1 : Int64)), (.int (1 : Int32)), (.ref r)]))
    refine own_Go.st (fun _ kt => XS.iloadN X24.here hx rfl (hb hby at_49) rfl kt) ?_
    show own_Go p e below _ (T24.setTop (mkF m 50 #[.val (.int p0), .val (.int p1), .val (.int p2), .val (.int p3), .val (.int p4), .val (.int (4 : Int32)), .val (.long (1 : Int64)), .second, .val (.ref r), .unset, .unset, .unset, .unset, .unset, .unset] [(.int p2), (.long (1 : Int64)), (.int (1 : Int32)), (.ref r)]))
    refine own_Go.st (fun _ kt => XS.i2l X24.here hx rfl (hb hby at_50) rfl kt) ?_
    show own_Go p e below _ (T24.setTop (mkF m 51 #[.val (.int p0), .val (.int p1), .val (.int p2), .val (.int p3), .val (.int p4), .val (.int (4 : Int32)), .val (.long (1 : Int64)), .second, .val (.ref r), .unset, .unset, .unset, .unset, .unset, .unset] [(.long (p2.toInt64)), (.long (1 : Int64)), (.int (1 : Int32)), (.ref r)]))
    refine own_Go.st (fun _ kt => XS.lmul X24.here hx rfl (hb hby at_51) rfl kt) ?_
    show own_Go p e below _ (T24.setTop (mkF m 52 #[.val (.int p0), .val (.int p1), .val (.int p2), .val (.int p3), .val (.int p4), .val (.int (4 : Int32)), .val (.long (1 : Int64)), .second, .val (.ref r), .unset, .unset, .unset, .unset, .unset, .unset] [(.long ((1 : Int64) * (p2.toInt64))), (.int (1 : Int32)), (.ref r)]))
    refine own_Go.st (fun _ kt => XS.l2dS X24.here hx rfl (hb hby at_52) rfl rfl kt) ?_
    show own_Go p e below _ (T24.setTop (mkF m 53 #[.val (.int p0), .val (.int p1), .val (.int p2), .val (.int p3), .val (.int p4), .val (.int (4 : Int32)), .val (.long (1 : Int64)), .second, .val (.ref r), .unset, .unset, .unset, .unset, .unset, .unset] [(.double (FP.l2d ((1 : Int64) * (p2.toInt64)))), (.int (1 : Int32)), (.ref r)]))
    obtain ⟨T26, h26, X26, e26, W26, st26⟩ := own_dst X24 hx hZ e24 a24 (i := 1) (by decide) (by decide) (g := (mkF m 53 #[.val (.int p0), .val (.int p1), .val (.int p2), .val (.int p3), .val (.int p4), .val (.int (4 : Int32)), .val (.long (1 : Int64)), .second, .val (.ref r), .unset, .unset, .unset, .unset, .unset, .unset] [(.double (FP.l2d ((1 : Int64) * (p2.toInt64)))), (.int (1 : Int32)), (.ref r)])) rfl rfl (hb hby at_53)
    refine own_Go.st st26 ?_
    have N26 := Fr.snoc X26 N24 n0_r
    have a26 := own_Ar.set a24 W26
    have zz27 : n0 ≤ Array.size h26 := Nat.le_trans zz25 (Nat.le_of_eq (Wr.size W26).symm)
    show own_Go p e below _ (T26.setTop (mkF m 54 #[.val (.int p0), .val (.int p1), .val (.int p2), .val (.int p3), .val (.int p4), .val (.int (4 : Int32)), .val (.long (1 : Int64)), .second, .val (.ref r), .unset, .unset, .unset, .unset, .unset, .unset] []))
    refine own_Go.st (fun _ kt => XS.iload X26.here hx rfl (hb hby at_54) rfl kt) ?_
    show own_Go p e below _ (T26.setTop (mkF m 56 #[.val (.int p0), .val (.int p1), .val (.int p2), .val (.int p3), .val (.int p4), .val (.int (4 : Int32)), .val (.long (1 : Int64)), .second, .val (.ref r), .unset, .unset, .unset, .unset, .unset, .unset] [(.int (4 : Int32))]))
    refine own_Go.st (fun _ kt => XS.iconst X26.here hx rfl (hb hby at_56) kt) ?_
    show own_Go p e below _ (T26.setTop (mkF m 57 #[.val (.int p0), .val (.int p1), .val (.int p2), .val (.int p3), .val (.int p4), .val (.int (4 : Int32)), .val (.long (1 : Int64)), .second, .val (.ref r), .unset, .unset, .unset, .unset, .unset, .unset] [(.int (2 : Int32)), (.int (4 : Int32))]))
    refine own_Go.st (fun _ kt => XS.icmpNo X26.here hx rfl (hb hby at_57) rfl (tlt (by decide)).2.2.2 kt) ?_
    show own_Go p e below _ (T26.setTop (mkF m 60 #[.val (.int p0), .val (.int p1), .val (.int p2), .val (.int p3), .val (.int p4), .val (.int (4 : Int32)), .val (.long (1 : Int64)), .second, .val (.ref r), .unset, .unset, .unset, .unset, .unset, .unset] []))
    refine own_Go.st (fun _ kt => XS.aload X26.here hx rfl (hb hby at_60) rfl rfl kt) ?_
    show own_Go p e below _ (T26.setTop (mkF m 62 #[.val (.int p0), .val (.int p1), .val (.int p2), .val (.int p3), .val (.int p4), .val (.int (4 : Int32)), .val (.long (1 : Int64)), .second, .val (.ref r), .unset, .unset, .unset, .unset, .unset, .unset] [(.ref r)]))
    refine own_Go.st (fun _ kt => XS.iconst X26.here hx rfl (hb hby at_62) kt) ?_
    show own_Go p e below _ (T26.setTop (mkF m 63 #[.val (.int p0), .val (.int p1), .val (.int p2), .val (.int p3), .val (.int p4), .val (.int (4 : Int32)), .val (.long (1 : Int64)), .second, .val (.ref r), .unset, .unset, .unset, .unset, .unset, .unset] [(.int (2 : Int32)), (.ref r)]))
    refine own_Go.st (fun _ kt => XS.lload X26.here hx rfl (hb hby at_63) rfl kt) ?_
    show own_Go p e below _ (T26.setTop (mkF m 65 #[.val (.int p0), .val (.int p1), .val (.int p2), .val (.int p3), .val (.int p4), .val (.int (4 : Int32)), .val (.long (1 : Int64)), .second, .val (.ref r), .unset, .unset, .unset, .unset, .unset, .unset] [(.long (1 : Int64)), (.int (2 : Int32)), (.ref r)]))
    refine own_Go.st (fun _ kt => XS.iloadN X26.here hx rfl (hb hby at_65) rfl kt) ?_
    show own_Go p e below _ (T26.setTop (mkF m 66 #[.val (.int p0), .val (.int p1), .val (.int p2), .val (.int p3), .val (.int p4), .val (.int (4 : Int32)), .val (.long (1 : Int64)), .second, .val (.ref r), .unset, .unset, .unset, .unset, .unset, .unset] [(.int p3), (.long (1 : Int64)), (.int (2 : Int32)), (.ref r)]))
    refine own_Go.st (fun _ kt => XS.i2l X26.here hx rfl (hb hby at_66) rfl kt) ?_
    show own_Go p e below _ (T26.setTop (mkF m 67 #[.val (.int p0), .val (.int p1), .val (.int p2), .val (.int p3), .val (.int p4), .val (.int (4 : Int32)), .val (.long (1 : Int64)), .second, .val (.ref r), .unset, .unset, .unset, .unset, .unset, .unset] [(.long (p3.toInt64)), (.long (1 : Int64)), (.int (2 : Int32)), (.ref r)]))
    refine own_Go.st (fun _ kt => XS.lmul X26.here hx rfl (hb hby at_67) rfl kt) ?_
    show own_Go p e below _ (T26.setTop (mkF m 68 #[.val (.int p0), .val (.int p1), .val (.int p2), .val (.int p3), .val (.int p4), .val (.int (4 : Int32)), .val (.long (1 : Int64)), .second, .val (.ref r), .unset, .unset, .unset, .unset, .unset, .unset] [(.long ((1 : Int64) * (p3.toInt64))), (.int (2 : Int32)), (.ref r)]))
    refine own_Go.st (fun _ kt => XS.l2dS X26.here hx rfl (hb hby at_68) rfl rfl kt) ?_
    show own_Go p e below _ (T26.setTop (mkF m 69 #[.val (.int p0), .val (.int p1), .val (.int p2), .val (.int p3), .val (.int p4), .val (.int (4 : Int32)), .val (.long (1 : Int64)), .second, .val (.ref r), .unset, .unset, .unset, .unset, .unset, .unset] [(.double (FP.l2d ((1 : Int64) * (p3.toInt64)))), (.int (2 : Int32)), (.ref r)]))
    obtain ⟨T28, h28, X28, e28, W28, st28⟩ := own_dst X26 hx hZ e26 a26 (i := 2) (by decide) (by decide) (g := (mkF m 69 #[.val (.int p0), .val (.int p1), .val (.int p2), .val (.int p3), .val (.int p4), .val (.int (4 : Int32)), .val (.long (1 : Int64)), .second, .val (.ref r), .unset, .unset, .unset, .unset, .unset, .unset] [(.double (FP.l2d ((1 : Int64) * (p3.toInt64)))), (.int (2 : Int32)), (.ref r)])) rfl rfl (hb hby at_69)
    refine own_Go.st st28 ?_
    have N28 := Fr.snoc X28 N26 n0_r
    have a28 := own_Ar.set a26 W28
    have zz29 : n0 ≤ Array.size h28 := Nat.le_trans zz27 (Nat.le_of_eq (Wr.size W28).symm)
    show own_Go p e below _ (T28.setTop (mkF m 70 #[.val (.int p0), .val (.int p1), .val (.int p2), .val (.int p3), .val (.int p4), .val (.int (4 : Int32)), .val (.long (1 : Int64)), .second, .val (.ref r), .unset, .unset, .unset, .unset, .unset, .unset] []))
    refine own_Go.st (fun _ kt => XS.iload X28.here hx rfl (hb hby at_70) rfl kt) ?_
    show own_Go p e below _ (T28.setTop (mkF m 72 #[.val (.int p0), .val (.int p1), .val (.int p2), .val (.int p3), .val (.int p4), .val (.int (4 : Int32)), .val (.long (1 : Int64)), .second, .val (.ref r), .unset, .unset, .unset, .unset, .unset, .unset] [(.int (4 : Int32))]))
    refine own_Go.st (fun _ kt => XS.iconst X28.here hx rfl (hb hby at_72) kt) ?_
    show own_Go p e below _ (T28.setTop (mkF m 73 #[.val (.int p0), .val (.int p1), .val (.int p2), .val (.int p3), .val (.int p4), .val (.int (4 : Int32)), .val (.long (1 : Int64)), .second, .val (.ref r), .unset, .unset, .unset, .unset, .unset, .unset] [(.int (3 : Int32)), (.int (4 : Int32))]))
    refine own_Go.st (fun _ kt => XS.icmpNo X28.here hx rfl (hb hby at_73) rfl (tlt (by decide)).2.2.2 kt) ?_
    show own_Go p e below _ (T28.setTop (mkF m 76 #[.val (.int p0), .val (.int p1), .val (.int p2), .val (.int p3), .val (.int p4), .val (.int (4 : Int32)), .val (.long (1 : Int64)), .second, .val (.ref r), .unset, .unset, .unset, .unset, .unset, .unset] []))
    refine own_Go.st (fun _ kt => XS.aload X28.here hx rfl (hb hby at_76) rfl rfl kt) ?_
    show own_Go p e below _ (T28.setTop (mkF m 78 #[.val (.int p0), .val (.int p1), .val (.int p2), .val (.int p3), .val (.int p4), .val (.int (4 : Int32)), .val (.long (1 : Int64)), .second, .val (.ref r), .unset, .unset, .unset, .unset, .unset, .unset] [(.ref r)]))
    refine own_Go.st (fun _ kt => XS.iconst X28.here hx rfl (hb hby at_78) kt) ?_
    show own_Go p e below _ (T28.setTop (mkF m 79 #[.val (.int p0), .val (.int p1), .val (.int p2), .val (.int p3), .val (.int p4), .val (.int (4 : Int32)), .val (.long (1 : Int64)), .second, .val (.ref r), .unset, .unset, .unset, .unset, .unset, .unset] [(.int (3 : Int32)), (.ref r)]))
    refine own_Go.st (fun _ kt => XS.lload X28.here hx rfl (hb hby at_79) rfl kt) ?_
    show own_Go p e below _ (T28.setTop (mkF m 81 #[.val (.int p0), .val (.int p1), .val (.int p2), .val (.int p3), .val (.int p4), .val (.int (4 : Int32)), .val (.long (1 : Int64)), .second, .val (.ref r), .unset, .unset, .unset, .unset, .unset, .unset] [(.long (1 : Int64)), (.int (3 : Int32)), (.ref r)]))
    refine own_Go.st (fun _ kt => XS.iload X28.here hx rfl (hb hby at_81) rfl kt) ?_
    show own_Go p e below _ (T28.setTop (mkF m 83 #[.val (.int p0), .val (.int p1), .val (.int p2), .val (.int p3), .val (.int p4), .val (.int (4 : Int32)), .val (.long (1 : Int64)), .second, .val (.ref r), .unset, .unset, .unset, .unset, .unset, .unset] [(.int p4), (.long (1 : Int64)), (.int (3 : Int32)), (.ref r)]))
    refine own_Go.st (fun _ kt => XS.i2l X28.here hx rfl (hb hby at_83) rfl kt) ?_
    show own_Go p e below _ (T28.setTop (mkF m 84 #[.val (.int p0), .val (.int p1), .val (.int p2), .val (.int p3), .val (.int p4), .val (.int (4 : Int32)), .val (.long (1 : Int64)), .second, .val (.ref r), .unset, .unset, .unset, .unset, .unset, .unset] [(.long (p4.toInt64)), (.long (1 : Int64)), (.int (3 : Int32)), (.ref r)]))
    refine own_Go.st (fun _ kt => XS.lmul X28.here hx rfl (hb hby at_84) rfl kt) ?_
    show own_Go p e below _ (T28.setTop (mkF m 85 #[.val (.int p0), .val (.int p1), .val (.int p2), .val (.int p3), .val (.int p4), .val (.int (4 : Int32)), .val (.long (1 : Int64)), .second, .val (.ref r), .unset, .unset, .unset, .unset, .unset, .unset] [(.long ((1 : Int64) * (p4.toInt64))), (.int (3 : Int32)), (.ref r)]))
    refine own_Go.st (fun _ kt => XS.l2dS X28.here hx rfl (hb hby at_85) rfl rfl kt) ?_
    show own_Go p e below _ (T28.setTop (mkF m 86 #[.val (.int p0), .val (.int p1), .val (.int p2), .val (.int p3), .val (.int p4), .val (.int (4 : Int32)), .val (.long (1 : Int64)), .second, .val (.ref r), .unset, .unset, .unset, .unset, .unset, .unset] [(.double (FP.l2d ((1 : Int64) * (p4.toInt64)))), (.int (3 : Int32)), (.ref r)]))
    obtain ⟨T30, h30, X30, e30, W30, st30⟩ := own_dst X28 hx hZ e28 a28 (i := 3) (by decide) (by decide) (g := (mkF m 86 #[.val (.int p0), .val (.int p1), .val (.int p2), .val (.int p3), .val (.int p4), .val (.int (4 : Int32)), .val (.long (1 : Int64)), .second, .val (.ref r), .unset, .unset, .unset, .unset, .unset, .unset] [(.double (FP.l2d ((1 : Int64) * (p4.toInt64)))), (.int (3 : Int32)), (.ref r)])) rfl rfl (hb hby at_86)
    refine own_Go.st st30 ?_
    have N30 := Fr.snoc X30 N28 n0_r
    have a30 := own_Ar.set a28 W30
    have zz31 : n0 ≤ Array.size h30 := Nat.le_trans zz29 (Nat.le_of_eq (Wr.size W30).symm)
    show own_Go p e below _ (T30.setTop (mkF m 87 #[.val (.int p0), .val (.int p1), .val (.int p2), .val (.int p3), .val (.int p4), .val (.int (4 : Int32)), .val (.long (1 : Int64)), .second, .val (.ref r), .unset, .unset, .unset, .unset, .unset, .unset] []))
    refine own_Go.st (fun _ kt => XS.iloadN X30.here hx rfl (hb hby at_87) rfl kt) ?_
    show own_Go p e below _ (T30.setTop (mkF m 88 #[.val (.int p0), .val (.int p1), .val (.int p2), .val (.int p3), .val (.int p4), .val (.int (4 : Int32)), .val (.long (1 : Int64)), .second, .val (.ref r), .unset, .unset, .unset, .unset, .unset, .unset] [(.int p1)]))
    refine own_Go.st (fun _ kt => XS.i2l X30.here hx rfl (hb hby at_88) rfl kt) ?_
    show own_Go p e below _ (T30.setTop (mkF m 89 #[.val (.int p0), .val (.int p1), .val (.int p2), .val (.int p3), .val (.int p4), .val (.int (4 : Int32)), .val (.long (1 : Int64)), .second, .val (.ref r), .unset, .unset, .unset, .unset, .unset, .unset] [(.long (p1.toInt64))]))
    refine own_Go.st (fun _ kt => XS.lstore X30.here hx rfl (hb hby at_89) rfl (l' := #[.val (.int p0), .val (.int p1), .val (.int p2), .val (.int p3), .val (.int p4), .val (.int (4 : Int32)), .val (.long (1 : Int64)), .second, .val (.ref r), .val (.long (p1.toInt64)), .second, .unset, .unset, .unset, .unset]) rfl kt) ?_
    show own_Go p e below _ (T30.setTop (mkF m 91 #[.val (.int p0), .val (.int p1), .val (.int p2), .val (.int p3), .val (.int p4), .val (.int (4 : Int32)), .val (.long (1 : Int64)), .second, .val (.ref r), .val (.long (p1.toInt64)), .second, .unset, .unset, .unset, .unset] []))
    refine own_Go.st (fun _ kt => XS.iload X30.here hx rfl (hb hby at_91) rfl kt) ?_
    show own_Go p e below _ (T30.setTop (mkF m 93 #[.val (.int p0), .val (.int p1), .val (.int p2), .val (.int p3), .val (.int p4), .val (.int (4 : Int32)), .val (.long (1 : Int64)), .second, .val (.ref r), .val (.long (p1.toInt64)), .second, .unset, .unset, .unset, .unset] [(.int (4 : Int32))]))
    refine own_Go.st (fun _ kt => XS.iconst X30.here hx rfl (hb hby at_93) kt) ?_
    show own_Go p e below _ (T30.setTop (mkF m 94 #[.val (.int p0), .val (.int p1), .val (.int p2), .val (.int p3), .val (.int p4), .val (.int (4 : Int32)), .val (.long (1 : Int64)), .second, .val (.ref r), .val (.long (p1.toInt64)), .second, .unset, .unset, .unset, .unset] [(.int (1 : Int32)), (.int (4 : Int32))]))
    refine own_Go.st (fun _ kt => XS.icmpNo X30.here hx rfl (hb hby at_94) rfl (tlt (by decide)).2.2.2 kt) ?_
    show own_Go p e below _ (T30.setTop (mkF m 97 #[.val (.int p0), .val (.int p1), .val (.int p2), .val (.int p3), .val (.int p4), .val (.int (4 : Int32)), .val (.long (1 : Int64)), .second, .val (.ref r), .val (.long (p1.toInt64)), .second, .unset, .unset, .unset, .unset] []))
    refine own_Go.st (fun _ kt => XS.lload X30.here hx rfl (hb hby at_97) rfl kt) ?_
    show own_Go p e below _ (T30.setTop (mkF m 99 #[.val (.int p0), .val (.int p1), .val (.int p2), .val (.int p3), .val (.int p4), .val (.int (4 : Int32)), .val (.long (1 : Int64)), .second, .val (.ref r), .val (.long (p1.toInt64)), .second, .unset, .unset, .unset, .unset] [(.long (p1.toInt64))]))
    refine own_Go.st (fun _ kt => XS.iloadN X30.here hx rfl (hb hby at_99) rfl kt) ?_
    show own_Go p e below _ (T30.setTop (mkF m 100 #[.val (.int p0), .val (.int p1), .val (.int p2), .val (.int p3), .val (.int p4), .val (.int (4 : Int32)), .val (.long (1 : Int64)), .second, .val (.ref r), .val (.long (p1.toInt64)), .second, .unset, .unset, .unset, .unset] [(.int p2), (.long (p1.toInt64))]))
    refine own_Go.st (fun _ kt => XS.i2l X30.here hx rfl (hb hby at_100) rfl kt) ?_
    show own_Go p e below _ (T30.setTop (mkF m 101 #[.val (.int p0), .val (.int p1), .val (.int p2), .val (.int p3), .val (.int p4), .val (.int (4 : Int32)), .val (.long (1 : Int64)), .second, .val (.ref r), .val (.long (p1.toInt64)), .second, .unset, .unset, .unset, .unset] [(.long (p2.toInt64)), (.long (p1.toInt64))]))
    refine own_Go.st (fun _ kt => XS.ladd X30.here hx rfl (hb hby at_101) rfl kt) ?_
    show own_Go p e below _ (T30.setTop (mkF m 102 #[.val (.int p0), .val (.int p1), .val (.int p2), .val (.int p3), .val (.int p4), .val (.int (4 : Int32)), .val (.long (1 : Int64)), .second, .val (.ref r), .val (.long (p1.toInt64)), .second, .unset, .unset, .unset, .unset] [(.long ((p1.toInt64) + (p2.toInt64)))]))
    refine own_Go.st (fun _ kt => XS.lstore X30.here hx rfl (hb hby at_102) rfl (l' := #[.val (.int p0), .val (.int p1), .val (.int p2), .val (.int p3), .val (.int p4), .val (.int (4 : Int32)), .val (.long (1 : Int64)), .second, .val (.ref r), .val (.long ((p1.toInt64) + (p2.toInt64))), .second, .unset, .unset, .unset, .unset]) rfl kt) ?_
    show own_Go p e below _ (T30.setTop (mkF m 104 #[.val (.int p0), .val (.int p1), .val (.int p2), .val (.int p3), .val (.int p4), .val (.int (4 : Int32)), .val (.long (1 : Int64)), .second, .val (.ref r), .val (.long ((p1.toInt64) + (p2.toInt64))), .second, .unset, .unset, .unset, .unset] []))
    refine own_Go.st (fun _ kt => XS.iload X30.here hx rfl (hb hby at_104) rfl kt) ?_
    show own_Go p e below _ (T30.setTop (mkF m 106 #[.val (.int p0), .val (.int p1), .val (.int p2), .val (.int p3), .val (.int p4), .val (.int (4 : Int32)), .val (.long (1 : Int64)), .second, .val (.ref r), .val (.long ((p1.toInt64) + (p2.toInt64))), .second, .unset, .unset, .unset, .unset] [(.int (4 : Int32))]))
    refine own_Go.st (fun _ kt => XS.iconst X30.here hx rfl (hb hby at_106) kt) ?_
    show own_Go p e below _ (T30.setTop (mkF m 107 #[.val (.int p0), .val (.int p1), .val (.int p2), .val (.int p3), .val (.int p4), .val (.int (4 : Int32)), .val (.long (1 : Int64)), .second, .val (.ref r), .val (.long ((p1.toInt64) + (p2.toInt64))), .second, .unset, .unset, .unset, .unset] [(.int (2 : Int32)), (.int (4 : Int32))]))
    refine own_Go.st (fun _ kt => XS.icmpNo X30.here hx rfl (hb hby at_107) rfl (tlt (by decide)).2.2.2 kt) ?_
    show own_Go p e below _ (T30.setTop (mkF m 110 #[.val (.int p0), .val (.int p1), .val (.int p2), .val (.int p3), .val (.int p4), .val (.int (4 : Int32)), .val (.long (1 : Int64)), .second, .val (.ref r), .val (.long ((p1.toInt64) + (p2.toInt64))), .second, .unset, .unset, .unset, .unset] []))
    refine own_Go.st (fun _ kt => XS.lload X30.here hx rfl (hb hby at_110) rfl kt) ?_
    show own_Go p e below _ (T30.setTop (mkF m 112 #[.val (.int p0), .val (.int p1), .val (.int p2), .val (.int p3), .val (.int p4), .val (.int (4 : Int32)), .val (.long (1 : Int64)), .second, .val (.ref r), .val (.long ((p1.toInt64) + (p2.toInt64))), .second, .unset, .unset, .unset, .unset] [(.long ((p1.toInt64) + (p2.toInt64)))]))
    refine own_Go.st (fun _ kt => XS.iloadN X30.here hx rfl (hb hby at_112) rfl kt) ?_
    show own_Go p e below _ (T30.setTop (mkF m 113 #[.val (.int p0), .val (.int p1), .val (.int p2), .val (.int p3), .val (.int p4), .val (.int (4 : Int32)), .val (.long (1 : Int64)), .second, .val (.ref r), .val (.long ((p1.toInt64) + (p2.toInt64))), .second, .unset, .unset, .unset, .unset] [(.int p3), (.long ((p1.toInt64) + (p2.toInt64)))]))
    refine own_Go.st (fun _ kt => XS.i2l X30.here hx rfl (hb hby at_113) rfl kt) ?_
    show own_Go p e below _ (T30.setTop (mkF m 114 #[.val (.int p0), .val (.int p1), .val (.int p2), .val (.int p3), .val (.int p4), .val (.int (4 : Int32)), .val (.long (1 : Int64)), .second, .val (.ref r), .val (.long ((p1.toInt64) + (p2.toInt64))), .second, .unset, .unset, .unset, .unset] [(.long (p3.toInt64)), (.long ((p1.toInt64) + (p2.toInt64)))]))
    refine own_Go.st (fun _ kt => XS.ladd X30.here hx rfl (hb hby at_114) rfl kt) ?_
    show own_Go p e below _ (T30.setTop (mkF m 115 #[.val (.int p0), .val (.int p1), .val (.int p2), .val (.int p3), .val (.int p4), .val (.int (4 : Int32)), .val (.long (1 : Int64)), .second, .val (.ref r), .val (.long ((p1.toInt64) + (p2.toInt64))), .second, .unset, .unset, .unset, .unset] [(.long (((p1.toInt64) + (p2.toInt64)) + (p3.toInt64)))]))
    refine own_Go.st (fun _ kt => XS.lstore X30.here hx rfl (hb hby at_115) rfl (l' := #[.val (.int p0), .val (.int p1), .val (.int p2), .val (.int p3), .val (.int p4), .val (.int (4 : Int32)), .val (.long (1 : Int64)), .second, .val (.ref r), .val (.long (((p1.toInt64) + (p2.toInt64)) + (p3.toInt64))), .second, .unset, .unset, .unset, .unset]) rfl kt) ?_
    show own_Go p e below _ (T30.setTop (mkF m 117 #[.val (.int p0), .val (.int p1), .val (.int p2), .val (.int p3), .val (.int p4), .val (.int (4 : Int32)), .val (.long (1 : Int64)), .second, .val (.ref r), .val (.long (((p1.toInt64) + (p2.toInt64)) + (p3.toInt64))), .second, .unset, .unset, .unset, .unset] []))
    refine own_Go.st (fun _ kt => XS.iload X30.here hx rfl (hb hby at_117) rfl kt) ?_
    show own_Go p e below _ (T30.setTop (mkF m 119 #[.val (.int p0), .val (.int p1), .val (.int p2), .val (.int p3), .val (.int p4), .val (.int (4 : Int32)), .val (.long (1 : Int64)), .second, .val (.ref r), .val (.long (((p1.toInt64) + (p2.toInt64)) + (p3.toInt64))), .second, .unset, .unset, .unset, .unset] [(.int (4 : Int32))]))
    refine own_Go.st (fun _ kt => XS.iconst X30.here hx rfl (hb hby at_119) kt) ?_
    show own_Go p e below _ (T30.setTop (mkF m 120 #[.val (.int p0), .val (.int p1), .val (.int p2), .val (.int p3), .val (.int p4), .val (.int (4 : Int32)), .val (.long (1 : Int64)), .second, .val (.ref r), .val (.long (((p1.toInt64) + (p2.toInt64)) + (p3.toInt64))), .second, .unset, .unset, .unset, .unset] [(.int (3 : Int32)), (.int (4 : Int32))]))
    refine own_Go.st (fun _ kt => XS.icmpNo X30.here hx rfl (hb hby at_120) rfl (tlt (by decide)).2.2.2 kt) ?_
    show own_Go p e below _ (T30.setTop (mkF m 123 #[.val (.int p0), .val (.int p1), .val (.int p2), .val (.int p3), .val (.int p4), .val (.int (4 : Int32)), .val (.long (1 : Int64)), .second, .val (.ref r), .val (.long (((p1.toInt64) + (p2.toInt64)) + (p3.toInt64))), .second, .unset, .unset, .unset, .unset] []))
    refine own_Go.st (fun _ kt => XS.lload X30.here hx rfl (hb hby at_123) rfl kt) ?_
    show own_Go p e below _ (T30.setTop (mkF m 125 #[.val (.int p0), .val (.int p1), .val (.int p2), .val (.int p3), .val (.int p4), .val (.int (4 : Int32)), .val (.long (1 : Int64)), .second, .val (.ref r), .val (.long (((p1.toInt64) + (p2.toInt64)) + (p3.toInt64))), .second, .unset, .unset, .unset, .unset] [(.long (((p1.toInt64) + (p2.toInt64)) + (p3.toInt64)))]))
    refine own_Go.st (fun _ kt => XS.iload X30.here hx rfl (hb hby at_125) rfl kt) ?_
    show own_Go p e below _ (T30.setTop (mkF m 127 #[.val (.int p0), .val (.int p1), .val (.int p2), .val (.int p3), .val (.int p4), .val (.int (4 : Int32)), .val (.long (1 : Int64)), .second, .val (.ref r), .val (.long (((p1.toInt64) + (p2.toInt64)) + (p3.toInt64))), .second, .unset, .unset, .unset, .unset] [(.int p4), (.long (((p1.toInt64) + (p2.toInt64)) + (p3.toInt64)))]))
    refine own_Go.st (fun _ kt => XS.i2l X30.here hx rfl (hb hby at_127) rfl kt) ?_
    show own_Go p e below _ (T30.setTop (mkF m 128 #[.val (.int p0), .val (.int p1), .val (.int p2), .val (.int p3), .val (.int p4), .val (.int (4 : Int32)), .val (.long (1 : Int64)), .second, .val (.ref r), .val (.long (((p1.toInt64) + (p2.toInt64)) + (p3.toInt64))), .second, .unset, .unset, .unset, .unset] [(.long (p4.toInt64)), (.long (((p1.toInt64) + (p2.toInt64)) + (p3.toInt64)))]))
    refine own_Go.st (fun _ kt => XS.ladd X30.here hx rfl (hb hby at_128) rfl kt) ?_
    show own_Go p e below _ (T30.setTop (mkF m 129 #[.val (.int p0), .val (.int p1), .val (.int p2), .val (.int p3), .val (.int p4), .val (.int (4 : Int32)), .val (.long (1 : Int64)), .second, .val (.ref r), .val (.long (((p1.toInt64) + (p2.toInt64)) + (p3.toInt64))), .second, .unset, .unset, .unset, .unset] [(.long ((((p1.toInt64) + (p2.toInt64)) + (p3.toInt64)) + (p4.toInt64)))]))
    refine own_Go.st (fun _ kt => XS.lstore X30.here hx rfl (hb hby at_129) rfl (l' := #[.val (.int p0), .val (.int p1), .val (.int p2), .val (.int p3), .val (.int p4), .val (.int (4 : Int32)), .val (.long (1 : Int64)), .second, .val (.ref r), .val (.long ((((p1.toInt64) + (p2.toInt64)) + (p3.toInt64)) + (p4.toInt64))), .second, .unset, .unset, .unset, .unset]) rfl kt) ?_
    show own_Go p e below _ (T30.setTop (mkF m 131 #[.val (.int p0), .val (.int p1), .val (.int p2), .val (.int p3), .val (.int p4), .val (.int (4 : Int32)), .val (.long (1 : Int64)), .second, .val (.ref r), .val (.long ((((p1.toInt64) + (p2.toInt64)) + (p3.toInt64)) + (p4.toInt64))), .second, .unset, .unset, .unset, .unset] []))
    refine own_Go.st (fun _ kt => XS.iload X30.here hx rfl (hb hby at_131) rfl kt) ?_
    show own_Go p e below _ (T30.setTop (mkF m 133 #[.val (.int p0), .val (.int p1), .val (.int p2), .val (.int p3), .val (.int p4), .val (.int (4 : Int32)), .val (.long (1 : Int64)), .second, .val (.ref r), .val (.long ((((p1.toInt64) + (p2.toInt64)) + (p3.toInt64)) + (p4.toInt64))), .second, .unset, .unset, .unset, .unset] [(.int (4 : Int32))]))
    refine own_Go.st (fun _ kt => XS.iconst X30.here hx rfl (hb hby at_133) kt) ?_
    show own_Go p e below _ (T30.setTop (mkF m 134 #[.val (.int p0), .val (.int p1), .val (.int p2), .val (.int p3), .val (.int p4), .val (.int (4 : Int32)), .val (.long (1 : Int64)), .second, .val (.ref r), .val (.long ((((p1.toInt64) + (p2.toInt64)) + (p3.toInt64)) + (p4.toInt64))), .second, .unset, .unset, .unset, .unset] [(.int (3 : Int32)), (.int (4 : Int32))]))
    refine own_Go.st (fun _ kt => XS.icmpYes X30.here hx rfl (pc0 := 134) (pc' := 143) rfl (hb hby at_134) rfl (feq (by decide)).2 (by decide) (by decide) kt) ?_
    show own_Go p e below _ (T30.setTop (mkF m 143 #[.val (.int p0), .val (.int p1), .val (.int p2), .val (.int p3), .val (.int p4), .val (.int (4 : Int32)), .val (.long (1 : Int64)), .second, .val (.ref r), .val (.long ((((p1.toInt64) + (p2.toInt64)) + (p3.toInt64)) + (p4.toInt64))), .second, .unset, .unset, .unset, .unset] []))
    refine own_Go.st (fun _ kt => XS.lload X30.here hx rfl (hb hby at_143) rfl kt) ?_
    show own_Go p e below _ (T30.setTop (mkF m 145 #[.val (.int p0), .val (.int p1), .val (.int p2), .val (.int p3), .val (.int p4), .val (.int (4 : Int32)), .val (.long (1 : Int64)), .second, .val (.ref r), .val (.long ((((p1.toInt64) + (p2.toInt64)) + (p3.toInt64)) + (p4.toInt64))), .second, .unset, .unset, .unset, .unset] [(.long ((((p1.toInt64) + (p2.toInt64)) + (p3.toInt64)) + (p4.toInt64)))]))
    refine own_Go.st (fun _ kt => XS.l2dS X30.here hx rfl (hb hby at_145) rfl rfl kt) ?_
    show own_Go p e below _ (T30.setTop (mkF m 146 #[.val (.int p0), .val (.int p1), .val (.int p2), .val (.int p3), .val (.int p4), .val (.int (4 : Int32)), .val (.long (1 : Int64)), .second, .val (.ref r), .val (.long ((((p1.toInt64) + (p2.toInt64)) + (p3.toInt64)) + (p4.toInt64))), .second, .unset, .unset, .unset, .unset] [(.double (FP.l2d ((((p1.toInt64) + (p2.toInt64)) + (p3.toInt64)) + (p4.toInt64))))]))
    refine own_Go.st (fun _ kt => XS.iload X30.here hx rfl (hb hby at_146) rfl kt) ?_
    show own_Go p e below _ (T30.setTop (mkF m 148 #[.val (.int p0), .val (.int p1), .val (.int p2), .val (.int p3), .val (.int p4), .val (.int (4 : Int32)), .val (.long (1 : Int64)), .second, .val (.ref r), .val (.long ((((p1.toInt64) + (p2.toInt64)) + (p3.toInt64)) + (p4.toInt64))), .second, .unset, .unset, .unset, .unset] [(.int (4 : Int32)), (.double (FP.l2d ((((p1.toInt64) + (p2.toInt64)) + (p3.toInt64)) + (p4.toInt64))))]))
    refine own_Go.st (fun _ kt => XS.i2dS X30.here hx rfl (hb hby at_148) rfl rfl kt) ?_
    show own_Go p e below _ (T30.setTop (mkF m 149 #[.val (.int p0), .val (.int p1), .val (.int p2), .val (.int p3), .val (.int p4), .val (.int (4 : Int32)), .val (.long (1 : Int64)), .second, .val (.ref r), .val (.long ((((p1.toInt64) + (p2.toInt64)) + (p3.toInt64)) + (p4.toInt64))), .second, .unset, .unset, .unset, .unset] [(.double (FP.i2d (4 : Int32))), (.double (FP.l2d ((((p1.toInt64) + (p2.toInt64)) + (p3.toInt64)) + (p4.toInt64))))]))
    have ar := own_Ar.congr (f' := fun j => .double (own_pick (FP.l2d ((1 : Int64) * p1.toInt64)) (FP.l2d ((1 : Int64) * p2.toInt64)) (FP.l2d ((1 : Int64) * p3.toInt64)) (FP.l2d ((1 : Int64) * p4.toInt64)) j)) a30 (fun j hj => by
      have : j = 0 ∨ j = 1 ∨ j = 2 ∨ j = 3 := by omega
      rcases this with rfl | rfl | rfl | rfl <;> rfl)
    have hS : own_sum (fun j => (own_pick p1 p2 p3 p4 j).toInt) 4 = p1.toInt + p2.toInt + p3.toInt + p4.toInt := by simp [own_sum, own_pick]
    have q1 := own_abs32 p1
    have q2 := own_abs32 p2
    have q3 := own_abs32 p3
    have q4 := own_abs32 p4
    have t1 : p1.toInt64.toInt = p1.toInt := c_i2l p1
    have t2 := own_add64 (b := p2) t1 (by omega)
    have t3 := own_add64 (b := p3) t2 (by omega)
    have t4 := own_add64 (b := p4) t3 (by omega)
    have hwx := own_whole (z := (((p1.toInt64 + p2.toInt64) + p3.toInt64) + p4.toInt64)) (xn := 4) (K := 1072) t4 (by omega) (n := 4) (by decide) (by decide) (by decide) own_e4
    refine own_Go.st (fun _ kt => XS.ddivS X30.here hx rfl (hb hby at_149) rfl (Jvm.FP.Core.own_D.n64 hwx) rfl kt) ?_
    show own_Go p e below _ (T30.setTop (mkF m 150 #[.val (.int p0), .val (.int p1), .val (.int p2), .val (.int p3), .val (.int p4), .val (.int (4 : Int32)), .val (.long (1 : Int64)), .second, .val (.ref r), .val (.long ((((p1.toInt64) + (p2.toInt64)) + (p3.toInt64)) + (p4.toInt64))), .second, .unset, .unset, .unset, .unset] [(.double (FP.ddiv (FP.l2d ((((p1.toInt64) + (p2.toInt64)) + (p3.toInt64)) + (p4.toInt64))) (FP.i2d (4 : Int32))))]))
    refine own_Go.st (fun _ kt => XS.dstore X30.here hx rfl (hb hby at_150) rfl (l' := #[.val (.int p0), .val (.int p1), .val (.int p2), .val (.int p3), .val (.int p4), .val (.int (4 : Int32)), .val (.long (1 : Int64)), .second, .val (.ref r), .val (.long ((((p1.toInt64) + (p2.toInt64)) + (p3.toInt64)) + (p4.toInt64))), .second, .val (.double (FP.ddiv (FP.l2d ((((p1.toInt64) + (p2.toInt64)) + (p3.toInt64)) + (p4.toInt64))) (FP.i2d (4 : Int32)))), .second, .unset, .unset]) rfl kt) ?_
    show own_Go p e below _ (T30.setTop (mkF m 152 #[.val (.int p0), .val (.int p1), .val (.int p2), .val (.int p3), .val (.int p4), .val (.int (4 : Int32)), .val (.long (1 : Int64)), .second, .val (.ref r), .val (.long ((((p1.toInt64) + (p2.toInt64)) + (p3.toInt64)) + (p4.toInt64))), .second, .val (.double (FP.ddiv (FP.l2d ((((p1.toInt64) + (p2.toInt64)) + (p3.toInt64)) + (p4.toInt64))) (FP.i2d (4 : Int32)))), .second, .unset, .unset] []))
    refine own_Go.st (fun _ kt => XS.aload X30.here hx rfl (hb hby at_152) rfl rfl kt) ?_
    show own_Go p e below _ (T30.setTop (mkF m 154 #[.val (.int p0), .val (.int p1), .val (.int p2), .val (.int p3), .val (.int p4), .val (.int (4 : Int32)), .val (.long (1 : Int64)), .second, .val (.ref r), .val (.long ((((p1.toInt64) + (p2.toInt64)) + (p3.toInt64)) + (p4.toInt64))), .second, .val (.double (FP.ddiv (FP.l2d ((((p1.toInt64) + (p2.toInt64)) + (p3.toInt64)) + (p4.toInt64))) (FP.i2d (4 : Int32)))), .second, .unset, .unset] [(.ref r)]))
    obtain ⟨_, _, ⟨T32, L32, k32, n32⟩, -, X32, ⟨Lc32, hQ32, l32, y32, z32⟩, st32⟩ := Jvm.LawKit.callS X30 hx (y := (⟨"com/example/wallingford/wallingford/statistics/SampleStatistics", "mean", "([D)D"⟩ : MethodName)) hown (mvT hZ (hw _ (List.mem_of_getElem? (i := 1) rfl))) (mvT hZ (hw _ (List.mem_of_getElem? (i := 2) rfl))) (mvT hZ (hw _ (List.mem_of_getElem? (i := 3) rfl))) (mvT hZ (hw _ (List.mem_of_getElem? (i := 4) rfl))) (by decide) (backOf (W := 0) (own_mean l Z a0 hw [] r (4 : Int32) 4 1072 (own_pick (FP.l2d ((1 : Int64) * p1.toInt64)) (FP.l2d ((1 : Int64) * p2.toInt64)) (FP.l2d ((1 : Int64) * p3.toInt64)) (FP.l2d ((1 : Int64) * p4.toInt64))) (fun j => (own_pick p1 p2 p3 p4 j).toInt) h30 n0 zz31 ar (by decide) (by decide) (by decide) (fun j => own_abs32 _) (fun j hj => by
      have : j = 0 ∨ j = 1 ∨ j = 2 ∨ j = 3 := by omega
      rcases this with rfl | rfl | rfl | rfl <;> exact own_share (k := (1 : Int64)) (xn := 4) (n := 4) (m := 1) (by decide) (by decide) (by decide) (by decide) (by decide) own_e4 _)) hZ (hw _ (List.mem_of_getElem? (i := 4) rfl)) (hw _ (List.mem_of_getElem? (i := 3) rfl)) (by decide) (by decide)) (g := (mkF m 154 #[.val (.int p0), .val (.int p1), .val (.int p2), .val (.int p3), .val (.int p4), .val (.int (4 : Int32)), .val (.long (1 : Int64)), .second, .val (.ref r), .val (.long ((((p1.toInt64) + (p2.toInt64)) + (p3.toInt64)) + (p4.toInt64))), .second, .val (.double (FP.ddiv (FP.l2d ((((p1.toInt64) + (p2.toInt64)) + (p3.toInt64)) + (p4.toInt64))) (FP.i2d (4 : Int32)))), .second, .unset, .unset] [(.ref r)])) rfl (by rw [hml]; rfl) (argsL := [(.ref r)]) (rest := []) (lenOf own_pd0 rfl) rfl (by show 2 * 0 + _ ≤ _; exact Nat.le_of_eq rfl) (hb hby at_154) (fun _ _ => ⟨rfl, e30, (by decide : 1 + 0 ≤ _), (by decide : 4 + 0 ≤ _)⟩)
    dsimp only [Pt.U, Pt.locs, Pt.cells, Pt.slots] at X32 l32 y32 z32 st32 hQ32
    subst l32 y32 z32
    obtain ⟨d, rfl, N32q, hd32, hh32⟩ := hQ32
    have N32 := Fr.app N30 N32q
    refine own_Go.st (fun _ kt => st32 _ kt) ?_
    show own_Go p e below _ (T32.setTop (mkF m 157 #[.val (.int p0), .val (.int p1), .val (.int p2), .val (.int p3), .val (.int p4), .val (.int (4 : Int32)), .val (.long (1 : Int64)), .second, .val (.ref r), .val (.long ((((p1.toInt64) + (p2.toInt64)) + (p3.toInt64)) + (p4.toInt64))), .second, .val (.double (FP.ddiv (FP.l2d ((((p1.toInt64) + (p2.toInt64)) + (p3.toInt64)) + (p4.toInt64))) (FP.i2d (4 : Int32)))), .second, .unset, .unset] [(.double d)]))
    rw [hS] at hd32
    refine own_Go.st (fun _ kt => XS.dstore X32.here hx rfl (hb hby at_157) rfl (l' := #[.val (.int p0), .val (.int p1), .val (.int p2), .val (.int p3), .val (.int p4), .val (.int (4 : Int32)), .val (.long (1 : Int64)), .second, .val (.ref r), .val (.long ((((p1.toInt64) + (p2.toInt64)) + (p3.toInt64)) + (p4.toInt64))), .second, .val (.double (FP.ddiv (FP.l2d ((((p1.toInt64) + (p2.toInt64)) + (p3.toInt64)) + (p4.toInt64))) (FP.i2d (4 : Int32)))), .second, .val (.double d), .second]) rfl kt) ?_
    show own_Go p e below _ (T32.setTop (mkF m 159 #[.val (.int p0), .val (.int p1), .val (.int p2), .val (.int p3), .val (.int p4), .val (.int (4 : Int32)), .val (.long (1 : Int64)), .second, .val (.ref r), .val (.long ((((p1.toInt64) + (p2.toInt64)) + (p3.toInt64)) + (p4.toInt64))), .second, .val (.double (FP.ddiv (FP.l2d ((((p1.toInt64) + (p2.toInt64)) + (p3.toInt64)) + (p4.toInt64))) (FP.i2d (4 : Int32)))), .second, .val (.double d), .second] []))
    refine own_Go.st (fun _ kt => XS.dload X32.here hx rfl (hb hby at_159) rfl kt) ?_
    show own_Go p e below _ (T32.setTop (mkF m 161 #[.val (.int p0), .val (.int p1), .val (.int p2), .val (.int p3), .val (.int p4), .val (.int (4 : Int32)), .val (.long (1 : Int64)), .second, .val (.ref r), .val (.long ((((p1.toInt64) + (p2.toInt64)) + (p3.toInt64)) + (p4.toInt64))), .second, .val (.double (FP.ddiv (FP.l2d ((((p1.toInt64) + (p2.toInt64)) + (p3.toInt64)) + (p4.toInt64))) (FP.i2d (4 : Int32)))), .second, .val (.double d), .second] [(.double d)]))
    refine own_Go.st (fun _ kt => XS.dload X32.here hx rfl (hb hby at_161) rfl kt) ?_
    show own_Go p e below _ (T32.setTop (mkF m 163 #[.val (.int p0), .val (.int p1), .val (.int p2), .val (.int p3), .val (.int p4), .val (.int (4 : Int32)), .val (.long (1 : Int64)), .second, .val (.ref r), .val (.long ((((p1.toInt64) + (p2.toInt64)) + (p3.toInt64)) + (p4.toInt64))), .second, .val (.double (FP.ddiv (FP.l2d ((((p1.toInt64) + (p2.toInt64)) + (p3.toInt64)) + (p4.toInt64))) (FP.i2d (4 : Int32)))), .second, .val (.double d), .second] [(.double (FP.ddiv (FP.l2d ((((p1.toInt64) + (p2.toInt64)) + (p3.toInt64)) + (p4.toInt64))) (FP.i2d (4 : Int32)))), (.double d)]))
    refine own_Go.st (fun _ kt => XS.dcmpS X32.here hx rfl (hb hby at_163) rfl (own_deq hd32 hwx _) kt) ?_
    show own_Go p e below _ (T32.setTop (mkF m 164 #[.val (.int p0), .val (.int p1), .val (.int p2), .val (.int p3), .val (.int p4), .val (.int (4 : Int32)), .val (.long (1 : Int64)), .second, .val (.ref r), .val (.long ((((p1.toInt64) + (p2.toInt64)) + (p3.toInt64)) + (p4.toInt64))), .second, .val (.double (FP.ddiv (FP.l2d ((((p1.toInt64) + (p2.toInt64)) + (p3.toInt64)) + (p4.toInt64))) (FP.i2d (4 : Int32)))), .second, .val (.double d), .second] [(.int (0 : Int32))]))
    refine own_Go.st (fun _ kt => XS.ifNo X32.here hx rfl (hb hby at_164) rfl ((if0 _ _).trans (teq rfl).2) kt) ?_
    show own_Go p e below _ (T32.setTop (mkF m 167 #[.val (.int p0), .val (.int p1), .val (.int p2), .val (.int p3), .val (.int p4), .val (.int (4 : Int32)), .val (.long (1 : Int64)), .second, .val (.ref r), .val (.long ((((p1.toInt64) + (p2.toInt64)) + (p3.toInt64)) + (p4.toInt64))), .second, .val (.double (FP.ddiv (FP.l2d ((((p1.toInt64) + (p2.toInt64)) + (p3.toInt64)) + (p4.toInt64))) (FP.i2d (4 : Int32)))), .second, .val (.double d), .second] []))
    refine own_Go.st (fun _ kt => XS.iconst X32.here hx rfl (hb hby at_167) kt) ?_
    show own_Go p e below _ (T32.setTop (mkF m 168 #[.val (.int p0), .val (.int p1), .val (.int p2), .val (.int p3), .val (.int p4), .val (.int (4 : Int32)), .val (.long (1 : Int64)), .second, .val (.ref r), .val (.long ((((p1.toInt64) + (p2.toInt64)) + (p3.toInt64)) + (p4.toInt64))), .second, .val (.double (FP.ddiv (FP.l2d ((((p1.toInt64) + (p2.toInt64)) + (p3.toInt64)) + (p4.toInt64))) (FP.i2d (4 : Int32)))), .second, .val (.double d), .second] [(.int (1 : Int32))]))
    refine own_Go.st (fun _ kt => XS.goto X32.here hx rfl (pc0 := 168) (pc' := 172) rfl (hb hby at_168) (by decide) (by decide) kt) ?_
    show own_Go p e below _ (T32.setTop (mkF m 172 #[.val (.int p0), .val (.int p1), .val (.int p2), .val (.int p3), .val (.int p4), .val (.int (4 : Int32)), .val (.long (1 : Int64)), .second, .val (.ref r), .val (.long ((((p1.toInt64) + (p2.toInt64)) + (p3.toInt64)) + (p4.toInt64))), .second, .val (.double (FP.ddiv (FP.l2d ((((p1.toInt64) + (p2.toInt64)) + (p3.toInt64)) + (p4.toInt64))) (FP.i2d (4 : Int32)))), .second, .val (.double d), .second] [(.int (1 : Int32))]))
    exact own_retZ X32 hx Bd.notSynchronized Bd.returns (Or.inr rfl) (hb hby at_172) (by decide) (by decide) ⟨rfl, N32⟩
set_option maxRecDepth 65536 in
set_option maxHeartbeats 40000000 in
theorem own_comes_1 {Post : Tables → Env → Array Value → State → Outcome → State → Prop} (hpost : ∀ tb e args s v u, (limb_1_1.after args s (.returned v) u = true ∧ limb_1_2.after args s (.returned v) u = true ∧ True) → FrameEnd s (.returned v) u (Jvm.fieldLocs frame_1_writes args s ++ Jvm.arrayLocs frame_1_arrays args s ++ Jvm.staticLocs frame_1_statics s) 16 128 → Post tb e args s (.returned v) u) :
    ArmFor flags0 classFile x code maxLocals ret World_1 tables_1 room_1 Calls_1 rest_1 Pre_1 Post := by
  intro l hfl _ _ p e ha hc hk s m args below hf hA hF happ hP
  obtain ⟨hcalls, hrest, hpre⟩ := hP
  obtain ⟨-, -, -, hnamed, -, -, -, hat⟩ := (Spec.applies_iff hf).mp happ
  obtain ⟨hg, hn⟩ := and_e (Cond.before_iff.mp (show (Jvm.Cond.and given_1 narrow_1).before args s = true from hpre))
  obtain ⟨hg0, hg1⟩ := and_e hg
  obtain ⟨ha0, hb0⟩ := and_e hg1
  obtain ⟨ha1, hb1⟩ := and_e hb0
  obtain ⟨ha2, hb2⟩ := and_e hb1
  obtain ⟨ha3, hb3⟩ := and_e hb2
  obtain ⟨w0, w1, w2, w3, w4, rfl⟩ : ∃ w0 w1 w2 w3 w4 : Value, args = #[w0, w1, w2, w3, w4] := by
    have hs : args.size = 5 := by simpa [Cond.value, given_1] using hg0
    obtain ⟨L⟩ := args
    match L, hs with
    | [w0, w1, w2, w3, w4], _ => exact ⟨w0, w1, w2, w3, w4, rfl⟩
  have hw := fun d (hd : d ∈ tables_1) => atoms_spec (ws := Jvm.Cond.code x code maxLocals ret :: tables_1) hat d (List.mem_cons_of_mem _ hd)
  have hfit : Fit s := fun {y c} hc i hi => by
    obtain ⟨ha, rfl⟩ := Array.getElem?_eq_some_iff.mp hc
    have q := List.all_eq_true.mp ((Array.all_eq_true_iff_forall_mem.mp hF) _ (Array.getElem_mem ha)) i (List.mem_range.mpr hi)
    simpa [Array.getElem?_eq_getElem hi] using q
  obtain ⟨p0, ep0⟩ := is_v ha0
  obtain rfl : w0 = (.int p0) := Option.some.inj ep0
  obtain ⟨p1, ep1⟩ := is_v ha1
  obtain rfl : w1 = (.int p1) := Option.some.inj ep1
  obtain ⟨p2, ep2⟩ := is_v ha2
  obtain rfl : w2 = (.int p2) := Option.some.inj ep2
  obtain ⟨p3, ep3⟩ := is_v ha3
  obtain rfl : w3 = (.int p3) := Option.some.inj ep3
  obtain ⟨p4, ep4⟩ := is_v hb3
  obtain rfl : w4 = (.int p4) := Option.some.inj ep4

  obtain ⟨n, o, h1, h2, h3, _, L, rfl, ⟨rfl, N⟩, hq⟩ := own_law l s _ hw tables_1 p0 p1 p2 p3 p4  s.heap s.heap.size (Nat.le_refl _)  p e ha hc hk s m _ below hf ((Spec.applies_iff_loose hf).mp happ).1 ⟨rfl, State.Warmed39.refl s, rfl⟩ trivial
  refine ⟨n, _, h1, h2, h3, hpost _ _ _ _ _ _ ⟨Cond.after_iff.mpr rfl, Cond.after_iff.mpr (eq_i res_at (Term.int_eval (1)) rfl), trivial⟩ ⟨hq.1, hq.2.1, (hq.2.2.sift fun y hy => Or.inr (N y hy)).mono (by decide) (by decide)⟩⟩
theorem main_1_1 : Claimed_1_1 := own_comes_1 fun _ _ _ _ _ _ h hF => ⟨h.1, hF⟩
theorem main_1_2 : Claimed_1_2 := own_comes_1 fun _ _ _ _ _ _ h hF => ⟨h.2.1, hF⟩

end Jvm.Pilot.@@N@@
namespace Jvm.Pilot.@@N@@
open Jvm Jvm.ClassFile Sem Op Lib Jvm.Free Jvm.Stand Jvm.Pilot.@@N@@.Jvm.D
/-! MADE BY PROGRAM (witnessworld.py) out of the Statement's table words and the real class files: 11 classes; the members and pool entries that the words name. The judged class is class 1, her method 1. -/
namespace start1
open Jvm.ClassFile
def u (s : String) : CpInfo := .utf8 (stringToUtf16 s)
/-- a pool by its gaps: so many unusable entries, then the entry; so many at the end -/
def gap : Nat → List CpInfo → List CpInfo
  | 0, r => r
  | n + 1, r => .unusable :: gap n r
def poolList (es : List (Nat × CpInfo)) (last : Nat) : List CpInfo := es.foldr (fun e r => gap e.1 (e.2 :: r)) (gap last [])
def pool (es : List (Nat × CpInfo)) (last : Nat) : Array CpInfo := ⟨poolList es last⟩
def fileOf (pool : Array CpInfo) (this : Nat) (attrs : Array Attribute := #[]) (ms : Array MethodInfo := #[]) (fl : Nat := 33) (sup : Nat := 0) (ifs : Array Nat := #[]) (fds : Array FieldInfo := #[]) : ClassFile where
  minorVersion := 0
  majorVersion := 65
  constantPool := pool
  accessFlags := fl
  thisClass := this
  superClass := sup
  interfaces := ifs
  fields := fds
  methods := ms
  attributes := attrs
def plain (name : String) (sup : Option ClassId) : Class where
  name := name
  kind := .ordinary
  loader := none
  accessFlags := 33
  super := sup
  interfaces := #[]
  cf := none
  fields := #[]
  methods := #[]
  instanceTypes := #[]
  staticTypes := #[]
  resolved := #[]
  callSites := []
  init := .initialized
  statics := none
  mirror := none

def pool0 : Array CpInfo := pool [(5, u "<init>"), (0, u "()V"), (1, .class_ 10), (1, u "java/lang/Object")] 113

def k0m0 : Method := { name := "<init>", desc := "()V", sig := { parameters := [], returnType := none }, accessFlags := 1, code := none }
/-- java/lang/Object -/
def k0 : Class := { plain "java/lang/Object" none with
  accessFlags := 33
  interfaces := #[]
  cf := some (fileOf pool0 8 #[] #[{ accessFlags := 1, nameIndex := 5, descriptorIndex := 6, attributes := #[] }] 33 0 #[] #[])
  fields := #[]
  methods := #[k0m0]
  instanceTypes := #[]
  staticTypes := #[]
  resolved := Array.replicate 124 none
  statics := none }

def pool1 : Array CpInfo := pool [(2, .class_ 4), (1, u "java/lang/Object"), (0, u "<init>"), (0, u "()V"), (0, .long 3), (1, .methodref 10 11), (0, .class_ 12), (0, .nameAndType 13 14), (0, u "com/example/wallingford/wallingford/statistics/SampleStatistics"), (0, u "mean"), (0, u "([D)D"), (0, .class_ 16), (0, u "com/example/wallingford/wallingford/statistics/SampleStatisticsMeanPinLaw"), (2, u "law"), (0, u "(IIIII)Z")] 5

def k1m0 : Method := { name := "<init>", desc := "()V", sig := { parameters := [], returnType := none }, accessFlags := 2, code := none }
def k1c1 : Code := { maxStack := 6, maxLocals := 15, code := code, exceptionTable := #[], attributes := #[] }
def k1m1 : Method := { name := "law", desc := "(IIIII)Z", sig := { parameters := [.int, .int, .int, .int, .int], returnType := some .boolean }, accessFlags := 9, code := some k1c1 }
/-- com/example/wallingford/wallingford/statistics/SampleStatisticsMeanPinLaw -/
def k1 : Class := { plain "com/example/wallingford/wallingford/statistics/SampleStatisticsMeanPinLaw" (some 0) with
  accessFlags := 49
  interfaces := #[]
  cf := some (fileOf pool1 15 #[] #[{ accessFlags := 2, nameIndex := 5, descriptorIndex := 6, attributes := #[] }, { accessFlags := 9, nameIndex := 19, descriptorIndex := 20, attributes := #[] }] 49 2 #[] #[])
  fields := #[]
  methods := #[k1m0, k1m1]
  instanceTypes := #[]
  staticTypes := #[]
  resolved := Array.replicate 26 none
  statics := none }

def pool2 : Array CpInfo := pool [(2, .class_ 4), (1, u "java/lang/Object"), (0, u "<init>"), (0, u "()V"), (1, .class_ 10), (1, u "com/example/wallingford/wallingford/statistics/SampleStatistics"), (0, u "mean"), (0, u "([D)D")] 65

def k2m0 : Method := { name := "<init>", desc := "()V", sig := { parameters := [], returnType := none }, accessFlags := 2, code := none }
def k2c1 : Code := { maxStack := 6, maxLocals := 8, code := prog_93_method_2_code, exceptionTable := #[], attributes := #[] }
def k2m1 : Method := { name := "mean", desc := "([D)D", sig := { parameters := [(.array .double)], returnType := some .double }, accessFlags := 9, code := some k2c1 }
/-- com/example/wallingford/wallingford/statistics/SampleStatistics -/
def k2 : Class := { plain "com/example/wallingford/wallingford/statistics/SampleStatistics" (some 0) with
  accessFlags := 49
  interfaces := #[]
  cf := some (fileOf pool2 8 #[] #[{ accessFlags := 2, nameIndex := 5, descriptorIndex := 6, attributes := #[] }, { accessFlags := 9, nameIndex := 11, descriptorIndex := 12, attributes := #[] }] 49 2 #[] #[])
  fields := #[]
  methods := #[k2m0, k2m1]
  instanceTypes := #[]
  staticTypes := #[]
  resolved := Array.replicate 78 none
  statics := none }

def pool3 : Array CpInfo := pool [(1, u "java/lang/Cloneable"), (0, .class_ 1), (0, u "java/lang/Object"), (0, .class_ 3)] 3

/-- java/lang/Cloneable -/
def k3 : Class := { plain "java/lang/Cloneable" (some 0) with
  accessFlags := 1537
  interfaces := #[]
  cf := some (fileOf pool3 2 #[] #[] 1537 4 #[] #[])
  fields := #[]
  methods := #[]
  instanceTypes := #[]
  staticTypes := #[]
  resolved := Array.replicate 8 none
  statics := none }

def pool4 : Array CpInfo := pool [(1, u "java/io/Serializable"), (0, .class_ 1), (0, u "java/lang/Object"), (0, .class_ 3)] 3

/-- java/io/Serializable -/
def k4 : Class := { plain "java/io/Serializable" (some 0) with
  accessFlags := 1537
  interfaces := #[]
  cf := some (fileOf pool4 2 #[] #[] 1537 4 #[] #[])
  fields := #[]
  methods := #[]
  instanceTypes := #[]
  staticTypes := #[]
  resolved := Array.replicate 8 none
  statics := none }

/-- the primitive byte -/
def k5 : Class := { plain "byte" none with kind := .primitive 'B', accessFlags := 0x411 }
/-- [B -/
def k6 : Class := { plain "[B" (some 0) with kind := .array 5 .byte, interfaces := #[3, 4], accessFlags := 1041 }

/-- the primitive double -/
def k7 : Class := { plain "double" none with kind := .primitive 'D', accessFlags := 0x411 }
/-- [D -/
def k8 : Class := { plain "[D" (some 0) with kind := .array 7 .double, interfaces := #[3, 4], accessFlags := 1041 }

/-- the primitive int -/
def k9 : Class := { plain "int" none with kind := .primitive 'I', accessFlags := 0x411 }
/-- [I -/
def k10 : Class := { plain "[I" (some 0) with kind := .array 9 .int, interfaces := #[3, 4], accessFlags := 1041 }

def heap : Heap := #[]
def classes : Array Class := #[k0, k1, k2, k3, k4, k5, k6, k7, k8, k9, k10]
def interned : List (Array UInt16 × Addr) := []
def slotsUsed : Nat := 0
def theMethod : MethodId := ⟨1, 1⟩
def args0 : Array Value := #[.int 5, .int 9, .int 7, .int 4, .int 3]
def aboutOver (below : List Frame) : State where
  vm := { classes := classes, interned := interned.toArray }
  heap := heap
  slotsUsed := slotsUsed
  threads := #[{ frames := .invoking theMethod args0 :: below }]
def below0 : List Frame := [.native { method := ⟨0, 0⟩, args := #[] }]
def about1 : State := aboutOver below0
def p0 : Program := .bare "" "" ""
def e0 : Env := launch0.env 0 0 0
theorem w_frames : about1.frames = Frame.invoking theMethod args0 :: below0 := rfl
set_option maxRecDepth 65536 in
theorem w_args : argsFit about1.vm theMethod args0 = true := by decide +kernel
set_option maxRecDepth 65536 in
theorem w_heap : heapFits about1 = true := by decide +kernel
set_option maxRecDepth 65536 in
theorem w_runnable : about1.curStatus? = some .runnable := by decide +kernel
set_option maxRecDepth 65536 in
theorem w_alone : about1.alone = true := by decide +kernel
set_option maxRecDepth 65536 in
theorem w_named : about1.methodNamed? x = some theMethod := by decide +kernel
set_option maxRecDepth 65536 in
theorem w_hears : about1.hears theMethod below0 = true := by decide +kernel
set_option maxRecDepth 65536 in
theorem w_ripe : about1.ripe theMethod args0 below0 = true := by decide +kernel
theorem w_running : about1.status = .running := rfl
set_option maxRecDepth 65536 in
theorem w_room : about1.hasRoom e0.platform room_1 = true :=
  launch0.hasRoom_least _ room_1 (by decide +kernel) (by decide +kernel) (by decide +kernel) (by decide +kernel) (by decide +kernel) (by decide +kernel)
theorem allAtoms_all (ts : List Jvm.Cond) (a : Array Jvm.Value) (st : Jvm.State) : (allAtoms ts).before a st = ts.all (fun c => c.before a st) := by
  induction ts with
  | nil => rfl
  | cons c t ih =>
    show (Jvm.Cond.and c (allAtoms t)).before a st = _
    rw [Jvm.Cond.before_and, ih, List.all_cons]
def words1 : List Jvm.Cond := Jvm.Cond.code x code maxLocals ret :: tables_1
/-- a 'code' word, met by the world's own term for the bytes: nothing is compared byte by byte -/
theorem code_word {y : MethodName} {bytes : ByteArray} {mx : Nat} {rt : Option FieldType} {a : Array Value} {s : State} {m : MethodId} {meth : Method} {c : Code} (h1 : s.methodNamed? y = some m) (h2 : s.vm.method? m = some meth) (h3 : meth.code = some c) (h4 : c.code = bytes)
    (h5 : (c.maxLocals == mx && c.exceptionTable.isEmpty && decide (c.maxStack ≤ mostOperands) && decide (meth.sig.returnType = rt) && !meth.locks && decide (parseMethodDescriptor y.desc = some meth.sig)) = true) : (Jvm.Cond.code y bytes mx rt).before a s = true := by
  simp only [Bool.and_eq_true, beq_iff_eq, Bool.not_eq_true', decide_eq_true_eq] at h5
  obtain ⟨⟨⟨⟨⟨g1, g2⟩, g3⟩, g4⟩, g5⟩, g6⟩ := h5
  simp [Cond.before, Cond.holds, Cond.value, h1, h2, h3, h4, g1, g2, g3, g4, g5, g6]
def isCode : Jvm.Cond → Bool
  | .code _ _ _ _ => true
  | _ => false
theorem all_split {L : List Jvm.Cond} {P : Jvm.Cond → Bool} (h1 : L.all (fun c => isCode c || P c) = true) (h2 : ∀ c ∈ L.filter isCode, P c = true) : L.all P = true := by
  refine List.all_eq_true.mpr fun c hc => ?_
  have h := List.all_eq_true.mp h1 c hc
  rcases Bool.eq_false_or_eq_true (isCode c) with hi | hi
  · exact h2 c (List.mem_filter.mpr ⟨hc, hi⟩)
  · simpa [hi] using h
set_option maxRecDepth 65536 in
theorem w_c0 : (Jvm.Cond.code x code maxLocals ret).before args0 about1 = true := code_word (m := ⟨1, 1⟩) (meth := k1m1) (c := k1c1) (by decide +kernel) rfl rfl rfl (by decide +kernel)
set_option maxRecDepth 65536 in
theorem w_c1 : (Jvm.Cond.code ({ cls := "com/example/wallingford/wallingford/statistics/SampleStatistics", name := "mean", desc := "([D)D" } : Jvm.MethodName) prog_93_method_2_code (8 : Nat) (Option.some Jvm.ClassFile.FieldType.double)).before args0 about1 = true := code_word (m := ⟨2, 1⟩) (meth := k2m1) (c := k2c1) (by decide +kernel) rfl rfl rfl (by decide +kernel)
def codes1 : List Jvm.Cond := [Jvm.Cond.code x code maxLocals ret, Jvm.Cond.code ({ cls := "com/example/wallingford/wallingford/statistics/SampleStatistics", name := "mean", desc := "([D)D" } : Jvm.MethodName) prog_93_method_2_code (8 : Nat) (Option.some Jvm.ClassFile.FieldType.double)]
set_option maxRecDepth 65536 in
theorem codes_eq : words1.filter isCode = codes1 := rfl
theorem w_codes : ∀ c ∈ words1.filter isCode, c.before args0 about1 = true := by
  rw [codes_eq]
  intro c hc
  simp only [codes1, List.mem_cons, List.not_mem_nil, or_false] at hc
  rcases hc with rfl | rfl
  · exact w_c0
  · exact w_c1
set_option maxRecDepth 65536 in
theorem w_t1 : words1.all (fun c => isCode c || c.before args0 about1) = true := by decide +kernel
theorem w_tables : (allAtoms (Jvm.Cond.code x code maxLocals ret :: tables_1)).before args0 about1 = true := by
  rw [allAtoms_all]
  show words1.all (fun c => c.before args0 about1) = true
  refine all_split ?_ w_codes
  rw [w_t1]
set_option maxRecDepth 65536 in
theorem w_case : (Jvm.Cond.and given_1 narrow_1).before args0 about1 = true := by decide +kernel
theorem w_applies : (headSpec (Jvm.Cond.code x code maxLocals ret :: tables_1) room_1).applies x e0.platform about1 = true :=
  (Spec.applies_iff w_frames).mpr ⟨w_running, w_runnable, w_alone, w_named, w_hears, w_ripe, w_room, w_tables⟩
theorem atStart : AtStart classFile x code maxLocals ret World_1 tables_1 room_1 Calls_1 rest_1 Pre_1 launch0 p0 e0 about1 theMethod args0 below0 :=
  ⟨lists_1, trivial, launch0.admits_env _ _ _, launch0.least_env, fairChoices_fair.cas, fairChoices_fair.clock, w_frames, w_args, w_heap, w_applies, trivial, trivial, w_case⟩
end start1
theorem witness_1 : WitnessClaimed_1 := ⟨start1.p0, start1.e0, start1.about1, start1.theMethod, start1.args0, start1.below0, start1.atStart⟩
end Jvm.Pilot.@@N@@
