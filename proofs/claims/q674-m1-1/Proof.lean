import JvmDerived
import JvmDerived.Pilot.@@N@@Statement
import JvmDerived.Pilot.@@N@@Code
set_option linter.unusedVariables false
set_option linter.unusedSimpArgs false
namespace Jvm.RoadKit
open Sem ClassFile Op Lib Jvm.Stand Jvm.Free Jvm.LawKit
section Own
/-- from here the run comes to an end of which P holds -/
def own_Go (p : Program) (e : Env) (below : List Frame) (P : Outcome → State → Prop) (t : State) : Prop :=
  ∃ s₂ o, Steps p.tables e below t s₂ ∧ s₂.status = .running ∧ Ended s₂ below o ∧ P o s₂
variable {p : Program} {l : Launch} {e : Env} {R : Room} {s : State} {m : MethodId} {args : Array Value} {below : List Frame} {meth : Method} {c : Code} {T : State} {locs : List Loc} {cells slots : Nat}
theorem own_Go.st {P : Outcome → State → Prop} {t t' : State} (h : ∀ target, Steps p.tables e below t' target → Steps p.tables e below t target) (k : own_Go p e below P t') : own_Go p e below P t := by
  obtain ⟨a, b, h1, h2⟩ := k
  exact ⟨a, b, h _ h1, h2⟩
variable {C N : Nat} {Q : Option Value → Heap → List Loc → Prop}
theorem own_ret {v : Option Value} {g : JFrame} (X : Stand p l e R s m args below meth c T locs cells slots) (hlk : meth.locks = false) (hv : meth.sig.returnType = none → v = none)
    (hl : ∀ fs : List Frame, (∀ (f : JFrame) (acts : List Action), f.method = m → f.locked = none → f.entered = [] → (doReturn e (T.setTop f) acts v).1 = T.setFrames fs) → Steps p.tables e below (T.setTop g) (T.setFrames fs))
    (hc : cells ≤ C) (hn : slots ≤ N) (q : Q v T.heap locs) : own_Go p e below (fun o U' => ∃ v L, o = .returned v ∧ Q v U'.heap L ∧ FrameEnd s o U' L C N) (T.setTop g) := by
  obtain ⟨fs, hr, hrun, hended, hW, hsame⟩ := X.leave (v := v) hv hlk
  exact ⟨_, _, hl fs hr, hrun, hended, _, _, rfl, q, ⟨_, rfl⟩, hW, hsame.mono hc hn⟩
theorem own_retI {pc : Nat} {Ls : Array Slot} {z : Int32} {rest : List Value} (X : Stand p l e R s m args below meth c T locs cells slots) (hx : p.tables.exec = Jvm.exec) (hlk : meth.locks = false) (hret : meth.sig.returnType = some .int) (hd : decode c.code pc = .ok (.ireturn, 1))
    (hc : cells ≤ C) (hn : slots ≤ N) (q : Q (some (.int z)) T.heap locs) : own_Go p e below (fun o U' => ∃ v L, o = .returned v ∧ Q v U'.heap L ∧ FrameEnd s o U' L C N) (T.setTop (mkF m pc Ls (.int z :: rest))) :=
  own_ret X hlk (fun h => by rw [hret] at h; cases h) (fun fs hr => retOut X hx hret rfl (Or.inl ⟨rfl, Or.inl rfl, z, rfl⟩) hd hr) hc hn q
theorem own_retN {t : FieldType} {pc : Nat} {Ls : Array Slot} {z : Int32} {rest : List Value} (X : Stand p l e R s m args below meth c T locs cells slots) (hx : p.tables.exec = Jvm.exec) (hlk : meth.locks = false) (hret : meth.sig.returnType = some t) (ht : t = .boolean ∨ t = .byte ∨ t = .char ∨ t = .short) (hz : nar t z = z) (hd : decode c.code pc = .ok (.ireturn, 1))
    (hc : cells ≤ C) (hn : slots ≤ N) (q : Q (some (.int z)) T.heap locs) : own_Go p e below (fun o U' => ∃ v L, o = .returned v ∧ Q v U'.heap L ∧ FrameEnd s o U' L C N) (T.setTop (mkF m pc Ls (.int z :: rest))) :=
  own_ret X hlk (fun h => by rw [hret] at h; cases h) (fun fs hr => retN X hx (z := z) hret ht hd (by rw [hz]; exact hr)) hc hn q
theorem own_retZ {pc : Nat} {Ls : Array Slot} {z : Int32} {rest : List Value} (X : Stand p l e R s m args below meth c T locs cells slots) (hx : p.tables.exec = Jvm.exec) (hlk : meth.locks = false) (hret : meth.sig.returnType = some .boolean) (hz : z = 0 ∨ z = 1) (hd : decode c.code pc = .ok (.ireturn, 1))
    (hc : cells ≤ C) (hn : slots ≤ N) (q : Q (some (.int z)) T.heap locs) : own_Go p e below (fun o U' => ∃ v L, o = .returned v ∧ Q v U'.heap L ∧ FrameEnd s o U' L C N) (T.setTop (mkF m pc Ls (.int z :: rest))) :=
  own_retN X hx hlk hret (Or.inl rfl) (by rcases hz with rfl | rfl <;> rfl) hd hc hn q
theorem own_retJ {pc : Nat} {Ls : Array Slot} {z : Int64} {rest : List Value} (X : Stand p l e R s m args below meth c T locs cells slots) (hx : p.tables.exec = Jvm.exec) (hlk : meth.locks = false) (hret : meth.sig.returnType = some .long) (hd : decode c.code pc = .ok (.lreturn, 1))
    (hc : cells ≤ C) (hn : slots ≤ N) (q : Q (some (.long z)) T.heap locs) : own_Go p e below (fun o U' => ∃ v L, o = .returned v ∧ Q v U'.heap L ∧ FrameEnd s o U' L C N) (T.setTop (mkF m pc Ls (.long z :: rest))) :=
  own_ret X hlk (fun h => by rw [hret] at h; cases h) (fun fs hr => retOut X hx hret rfl (Or.inr (Or.inl ⟨rfl, rfl, z, rfl⟩)) hd hr) hc hn q
theorem own_retD {pc : Nat} {Ls : Array Slot} {z : UInt64} {rest : List Value} (X : Stand p l e R s m args below meth c T locs cells slots) (hx : p.tables.exec = Jvm.exec) (hlk : meth.locks = false) (hret : meth.sig.returnType = some .double) (hd : decode c.code pc = .ok (.dreturn, 1))
    (hc : cells ≤ C) (hn : slots ≤ N) (q : Q (some (.double z)) T.heap locs) : own_Go p e below (fun o U' => ∃ v L, o = .returned v ∧ Q v U'.heap L ∧ FrameEnd s o U' L C N) (T.setTop (mkF m pc Ls (.double z :: rest))) :=
  own_ret X hlk (fun h => by rw [hret] at h; cases h) (fun fs hr => retOut X hx hret rfl (Or.inr (Or.inr (Or.inl ⟨rfl, rfl, z, rfl⟩))) hd hr) hc hn q
theorem own_retA {t : FieldType} {pc : Nat} {Ls : Array Slot} {w : Value} {rest : List Value} (X : Stand p l e R s m args below meth c T locs cells slots) (hx : p.tables.exec = Jvm.exec) (hlk : meth.locks = false) (hret : meth.sig.returnType = some t) (ht : t.isReference = true) (hw : w.isRef = true) (hd : decode c.code pc = .ok (.areturn, 1))
    (hc : cells ≤ C) (hn : slots ≤ N) (q : Q (some w) T.heap locs) : own_Go p e below (fun o U' => ∃ v L, o = .returned v ∧ Q v U'.heap L ∧ FrameEnd s o U' L C N) (T.setTop (mkF m pc Ls (w :: rest))) :=
  own_ret X hlk (fun h => by rw [hret] at h; cases h) (fun fs hr => retOut X hx hret (by rcases ref_cases hw with rfl | ⟨z, rfl⟩ <;> cases t <;> rfl) (Or.inr (Or.inr (Or.inr (Or.inr ⟨rfl, ht, hw⟩)))) hd hr) hc hn q
theorem own_retV {pc : Nat} {Ls : Array Slot} (X : Stand p l e R s m args below meth c T locs cells slots) (hx : p.tables.exec = Jvm.exec) (hlk : meth.locks = false) (hret : meth.sig.returnType = none) (hd : decode c.code pc = .ok (.return_, 1))
    (hc : cells ≤ C) (hn : slots ≤ N) (q : Q none T.heap locs) : own_Go p e below (fun o U' => ∃ v L, o = .returned v ∧ Q v U'.heap L ∧ FrameEnd s o U' L C N) (T.setTop (mkF m pc Ls [])) :=
  own_ret X hlk (fun _ => rfl) (fun fs hr => X.returnOut hx hret hd hr) hc hn q
theorem own_retW {vm0 : Vm} {k0 : Nat} {v : Option Value} {g : JFrame} (X : Stand p l e R (s.setVm vm0) m args below meth c T locs cells slots) (hlk : meth.locks = false) (hv : meth.sig.returnType = none → v = none) (hS : s.Since vm0 k0) (hk : k0 ≤ T.heap.size)
    (hl : ∀ fs : List Frame, (∀ (f : JFrame) (acts : List Action), f.method = m → f.locked = none → f.entered = [] → (doReturn e (T.setTop f) acts v).1 = T.setFrames fs) → Steps p.tables e below (T.setTop g) (T.setFrames fs))
    (hc : cells ≤ C) (hn : slots ≤ N) (q : Q v T.heap locs) : own_Go p e below (fun o U' => ∃ v L, o = .returned v ∧ Q v U'.heap L ∧ ReturnedEndW s o U' L C N) (T.setTop g) := by
  obtain ⟨fs, hr, hrun, hended, h1, h2, h3, h4⟩ := X.leaveW hS hk (v := v) hv hlk
  exact ⟨_, _, hl fs hr, hrun, hended, _, _, rfl, q, h1, h2, h3, h4.mono hc hn⟩
theorem own_retWV {vm0 : Vm} {k0 : Nat} {pc : Nat} {Ls : Array Slot} (X : Stand p l e R (s.setVm vm0) m args below meth c T locs cells slots) (hx : p.tables.exec = Jvm.exec) (hlk : meth.locks = false) (hret : meth.sig.returnType = none) (hS : s.Since vm0 k0) (hk : k0 ≤ T.heap.size) (hd : decode c.code pc = .ok (.return_, 1))
    (hc : cells ≤ C) (hn : slots ≤ N) (q : Q none T.heap locs) : own_Go p e below (fun o U' => ∃ v L, o = .returned v ∧ Q v U'.heap L ∧ ReturnedEndW s o U' L C N) (T.setTop (mkF m pc Ls [])) :=
  own_retW X hlk (fun _ => rfl) hS hk (fun fs hr => X.returnOut hx hret hd hr) hc hn q
theorem own_retWZ {vm0 : Vm} {k0 : Nat} {pc : Nat} {Ls : Array Slot} {z : Int32} {rest : List Value} (X : Stand p l e R (s.setVm vm0) m args below meth c T locs cells slots) (hx : p.tables.exec = Jvm.exec) (hlk : meth.locks = false) (hret : meth.sig.returnType = some .boolean) (hS : s.Since vm0 k0) (hk : k0 ≤ T.heap.size) (hz : z = 0 ∨ z = 1) (hd : decode c.code pc = .ok (.ireturn, 1))
    (hc : cells ≤ C) (hn : slots ≤ N) (q : Q (some (.int z)) T.heap locs) : own_Go p e below (fun o U' => ∃ v L, o = .returned v ∧ Q v U'.heap L ∧ ReturnedEndW s o U' L C N) (T.setTop (mkF m pc Ls (.int z :: rest))) :=
  own_retW X hlk (fun h => by rw [hret] at h; cases h) hS hk (fun fs hr => retN X hx (z := z) (t := .boolean) hret (Or.inl rfl) hd (by rw [show nar .boolean z = z by rcases hz with rfl | rfl <;> rfl]; exact hr)) hc hn q
/-- an array: its length, and what each place holds -/
def own_Ar (Z : State) (h : Heap) (a : Addr) (ty : FieldType) (n : Nat) (f : Nat → Value) : Prop := ∃ c : Cell, Arr Z h a c ty ∧ c.slots.size = n ∧ ∀ j, j < n → c.slots[j]? = some (f j)
section OwnAr
variable {Z : State} {h h' : Heap} {a b : Addr} {ty : FieldType} {n : Nat} {f f' : Nat → Value} {ws : List Addr}
theorem own_Ar.lt (F : own_Ar Z h a ty n f) : a < h.size := by obtain ⟨c, A, -⟩ := F; exact A.lt
theorem own_Ar.ext (F : own_Ar Z h a ty n f) (E : Ext h h') : own_Ar Z h' a ty n f := by obtain ⟨c, A, r⟩ := F; exact ⟨c, A.ext E, r⟩
theorem own_Ar.other {sl : Nat} {v : Value} (F : own_Ar Z h b ty n f) (W : Wr h h' a sl v) (q : b ≠ a) : own_Ar Z h' b ty n f := by obtain ⟨c, A, r⟩ := F; exact ⟨c, A.other W q, r⟩
theorem own_Ar.keep (F : own_Ar Z h a ty n f) (K : Keep h h' ws) (q : a ∉ ws) : own_Ar Z h' a ty n f := by obtain ⟨c, A, r⟩ := F; exact ⟨c, ⟨K.2.1 a c A.1 q, A.2⟩, r⟩
theorem own_Ar.congr (F : own_Ar Z h a ty n f) (q : ∀ j, j < n → f j = f' j) : own_Ar Z h a ty n f' := by obtain ⟨c, A, S, r⟩ := F; exact ⟨c, A, S, fun j hj => by rw [← q j hj]; exact r j hj⟩
theorem own_Ar.new {cA : ClassId} {z : Int32} (A : Arr Z h a (newA cA ty z) ty) (hz : z.toInt = (n : Int)) : own_Ar Z h a ty n (fun _ => defaultValue ty) := by
  have e : z.toNatClampNeg = n := by show z.toInt.toNat = n; omega
  exact ⟨_, A, by rw [sz_new, e], fun j hj => by simp [newA, e, hj]⟩
theorem own_Ar.set {i : Nat} {v : Value} (F : own_Ar Z h a ty n f) (W : Wr h h' a i v) : own_Ar Z h' a ty n (fun j => if j = i then v else f j) := by
  obtain ⟨c, A, S, r⟩ := F
  refine ⟨c.setSlot i v, A.same W, by rw [sz_set, S], fun j hj => ?_⟩
  show (c.slots.setIfInBounds i v)[j]? = _
  by_cases q : j = i
  · subst q; simp [S, hj]
  · rw [Array.getElem?_setIfInBounds_ne (Ne.symm q), r j hj]; simp [q]
theorem own_inb {c : Cell} {j : Int32} {i : Nat} (S : c.slots.size = n) (hj : j.toInt = (i : Int)) (hi : i < n) : ¬ (j < 0 ∨ c.slots.size ≤ j.toNatClampNeg) := by
  have e : j.toNatClampNeg = i := by show j.toInt.toNat = i; omega
  rw [e, S, Int32.lt_iff_toInt_lt, hj, show (0 : Int32).toInt = 0 by decide]
  omega
theorem own_clamp {j : Int32} {i : Nat} (hj : j.toInt = (i : Int)) : j.toNatClampNeg = i := by show j.toInt.toNat = i; omega
theorem own_alen (X : Stand p l e R s m args below meth c T locs cells slots) (hx : p.tables.exec = Jvm.exec) (hZ : Z.Warmed39 s.vm) (eT : T.heap = h) (F : own_Ar Z h a ty n f) {z : Int32} (hz : z.toInt = (n : Int))
    {g : JFrame} (hg : g.method = m) {rest : List Value} (hs : g.stack = .ref a :: rest) (hd : decode c.code g.pc = .ok (.arraylength, 1)) (target : State)
    (hr : Steps p.tables e below (T.setTop { g with pc := g.pc + 1, stack := .int z :: rest }) target) : Steps p.tables e below (T.setTop g) target := by
  obtain ⟨cl, A, S, -⟩ := F
  refine X.arraylength hx (by rw [eT]; exact A.1) (State.isArrayOf_alike hZ.alike A.2.1) hg hs hd target ?_
  have q : cl.slots.size.toInt32 = z := by
    rw [← Int32.toInt_inj, S, hz]
    have := z.toInt_lt
    exact len_toInt (by omega)
  rw [q]; exact hr
theorem own_dld (X : Stand p l e R s m args below meth c T locs cells slots) (hx : p.tables.exec = Jvm.exec) (hZ : Z.Warmed39 s.vm) (eT : T.heap = h) (F : own_Ar Z h a .double n f) {j : Int32} {i : Nat} (hj : j.toInt = (i : Int)) (hi : i < n) {v : Value} (hv : f i = v)
    {g : JFrame} (hg : g.method = m) {rest : List Value} (hs : g.stack = .int j :: .ref a :: rest) (hd : decode c.code g.pc = .ok (.daload, 1)) (target : State)
    (hr : Steps p.tables e below (T.setTop { g with pc := g.pc + 1, stack := v :: rest }) target) : Steps p.tables e below (T.setTop g) target := by
  obtain ⟨cl, A, S, H⟩ := F
  exact X.daload hx (by rw [eT]; exact A.1) (State.isArrayOf_alike hZ.alike A.2.1) A.2.2 (own_inb S hj hi) (by rw [own_clamp hj, H i hi, hv]) hg hs hd target hr
theorem own_lld (X : Stand p l e R s m args below meth c T locs cells slots) (hx : p.tables.exec = Jvm.exec) (hZ : Z.Warmed39 s.vm) (eT : T.heap = h) (F : own_Ar Z h a .long n f) {j : Int32} {i : Nat} (hj : j.toInt = (i : Int)) (hi : i < n) {v : Value} (hv : f i = v)
    {g : JFrame} (hg : g.method = m) {rest : List Value} (hs : g.stack = .int j :: .ref a :: rest) (hd : decode c.code g.pc = .ok (.laload, 1)) (target : State)
    (hr : Steps p.tables e below (T.setTop { g with pc := g.pc + 1, stack := v :: rest }) target) : Steps p.tables e below (T.setTop g) target := by
  obtain ⟨cl, A, S, H⟩ := F
  exact X.laload hx (by rw [eT]; exact A.1) (State.isArrayOf_alike hZ.alike A.2.1) A.2.2 (own_inb S hj hi) (by rw [own_clamp hj, H i hi, hv]) hg hs hd target hr
theorem own_dst (X : Stand p l e R s m args below meth c T locs cells slots) (hx : p.tables.exec = Jvm.exec) (hZ : Z.Warmed39 s.vm) (eT : T.heap = h) (F : own_Ar Z h a .double n f) {j : Int32} {i : Nat} (hj : j.toInt = (i : Int)) (hi : i < n) {x : UInt64}
    {g : JFrame} (hg : g.method = m) {rest : List Value} (hs : g.stack = .double x :: .int j :: .ref a :: rest) (hd : decode c.code g.pc = .ok (.dastore, 1)) :
    ∃ T' h', Stand p l e R s m args below meth c T' (locs ++ [⟨a, i⟩]) cells slots ∧ T'.heap = h' ∧ Wr h h' a i (.double x) ∧ ∀ target, Steps p.tables e below (T'.setTop { g with pc := g.pc + 1, stack := rest }) target → Steps p.tables e below (T.setTop g) target := by
  obtain ⟨cl, A, S, H⟩ := F
  have q := stD X hx hZ eT A (x := x) (own_inb S hj hi) hg hs hd
  rw [own_clamp hj] at q
  exact q
theorem own_lst (X : Stand p l e R s m args below meth c T locs cells slots) (hx : p.tables.exec = Jvm.exec) (hZ : Z.Warmed39 s.vm) (eT : T.heap = h) (F : own_Ar Z h a .long n f) {j : Int32} {i : Nat} (hj : j.toInt = (i : Int)) (hi : i < n) {x : Int64}
    {g : JFrame} (hg : g.method = m) {rest : List Value} (hs : g.stack = .long x :: .int j :: .ref a :: rest) (hd : decode c.code g.pc = .ok (.lastore, 1)) :
    ∃ T' h', Stand p l e R s m args below meth c T' (locs ++ [⟨a, i⟩]) cells slots ∧ T'.heap = h' ∧ Wr h h' a i (.long x) ∧ ∀ target, Steps p.tables e below (T'.setTop { g with pc := g.pc + 1, stack := rest }) target → Steps p.tables e below (T.setTop g) target := by
  obtain ⟨cl, A, S, H⟩ := F
  have q := stJ X hx hZ eT A (x := x) (own_inb S hj hi) hg hs hd
  rw [own_clamp hj] at q
  exact q
end OwnAr
theorem own_stakeep {Z : State} {h h' : Heap} {C n d : String} {v : Value} {ws : List Addr} (F : Sta Z h C n d v) (K : Keep h h' ws) (q : ∀ x ∈ ws, ∀ c : Cell, h[x]? = some c → c.vm.isStatics = false) : Sta Z h' C n d v := by
  obtain ⟨cf, i, k, f, st, cell, h1, h2, h3, h4, h5, h6, h7⟩ := F
  exact ⟨cf, i, k, f, st, cell, h1, h2, h3, h4, K.2.1 st cell h5 (fun hm => by rw [q st hm cell h5] at h6; cases h6), h6, h7⟩
end Own
end Jvm.RoadKit
namespace Jvm.FP.Core

section OwnDy
/-- x is finite, and worth z units of the least double -/
def own_D (x : UInt64) (z : Int) : Prop := DFin x ∧ zval b64 (val64 x) = z
theorem own_D.nn {x : UInt64} {z : Int} (h : own_D x z) : val64 x ≠ .nan := by
  obtain ⟨⟨s, c, q, e⟩, -⟩ := h
  rw [e]; exact Datum.noConfusion
theorem own_D.n64 {x : UInt64} {z : Int} (h : own_D x z) : Jvm.Free.Fl.NoNaN64 x := Jvm.Free.Fl.noNaN64_no.mpr ((notNaN_iff x).mpr h.nn)
/-- a whole number z of units that a finite double is worth -/
def own_Rep (z : Int) : Prop := ∃ V, fits b64 V ∧ (∃ s c q, V = Datum.fin s c q) ∧ zval b64 V = z
theorem own_rep (c : Int) (k : Nat) (hc : c.natAbs < 9007199254740992) (hk : k ≤ 2045) : own_Rep (c * ((2 ^ k : Nat) : Int)) := by
  obtain ⟨c', q', h1, h2⟩ := round_exact good_b64 (decide (c < 0)) (c := c.natAbs) (q := -1074 + (k : Int)) (show c.natAbs < 2 ^ 53 by omega) (by rw [qmin_b64]; omega) (show -1074 + (k : Int) ≤ b64.qmax by rw [show b64.qmax = 971 by decide]; omega)
  refine ⟨.fin (decide (c < 0)) c' q', h1 ▸ round_fits good_b64 _, ⟨_, _, _, rfl⟩, ?_⟩
  show signed (decide (c < 0)) (inUnits c' q' b64.qmin) = _
  rw [h2]
  unfold inUnits
  rw [qmin_b64, show (-1074 + (k : Int) - -1074).toNat = k by omega, signed_mul]
  congr 1
  unfold signed
  by_cases h : c < 0
  · simp [h]; omega
  · simp [h]; omega
theorem own_close {d V : Datum} (fd : fits b64 d) (nd : d ≠ .nan) (fV : fits b64 V) (hV : ∃ s c q, V = Datum.fin s c q) (e : zval b64 d = zval b64 V) : ∃ s c q, d = .fin s c q := by
  obtain ⟨s, c, q, rfl⟩ := hV
  have h1 := zmag_lt_top good_b64 fV
  cases d with
  | nan => exact absurd rfl nd
  | fin s' c' q' => exact ⟨_, _, _, rfl⟩
  | inf t =>
    exfalso
    have h2 : (zval b64 (.inf t)).natAbs = b64.tails * 2 ^ (b64.exps - 2) := natAbs_signed t _
    have h3 : (zval b64 (.fin s c q)).natAbs = inUnits c q b64.qmin := natAbs_signed s _
    rw [e, h3] at h2
    omega
theorem own_of {x : UInt64} {z : Int} (nx : val64 x ≠ .nan) (r : own_Rep z) (e : zval b64 (val64 x) = z) : own_D x z := by
  obtain ⟨V, fV, hV, eV⟩ := r
  exact ⟨own_close (val64_fits x) nx fV hV (by rw [e, eV]), e⟩
theorem own_dadd {x y : UInt64} {z w : Int} (hx : own_D x z) (hy : own_D y w) (r : own_Rep (z + w)) : own_D (FP.dadd x y) (z + w) := by
  have r' := r
  obtain ⟨V, fV, ⟨s, c, q, hV⟩, eV⟩ := r
  have nV : V ≠ .nan := by rw [hV]; exact Datum.noConfusion
  have e : zval b64 (val64 (Core.dadd x y)) = z + w := by
    rw [val64_dadd]
    have h1 := sum_le good_b64 hx.1 hy.1 (val64_fits x) (val64_fits y) fV nV (by rw [hx.2, hy.2, eV]; omega)
    have h2 := sum_ge good_b64 hx.1 hy.1 (val64_fits x) (val64_fits y) fV nV (by rw [hx.2, hy.2, eV]; omega)
    omega
  refine own_of ?_ r' e
  show val64 (Core.dadd x y) ≠ .nan
  rw [val64_dadd]
  obtain ⟨s1, c1, q1, e1⟩ := hx.1
  obtain ⟨s2, c2, q2, e2⟩ := hy.1
  rw [e1, e2]
  exact roundRatio_ne_nan _ _ _ _ _
theorem own_dneg {x : UInt64} {z : Int} (hx : own_D x z) : own_D (Core.dneg x) (-z) := by
  constructor
  · obtain ⟨s, c, q, e⟩ := hx.1
    exact ⟨!s, c, q, by rw [val64_dneg, e]; rfl⟩
  · rw [val64_dneg, zval_negate, hx.2]
theorem own_dsub {x y : UInt64} {z w : Int} (hx : own_D x z) (hy : own_D y w) (r : own_Rep (z - w)) : own_D (FP.dsub x y) (z - w) := by
  have h := own_dadd hx (own_dneg hy) (by rw [← Int.sub_eq_add_neg]; exact r)
  rw [← Int.sub_eq_add_neg] at h
  show own_D (Core.dsub x y) _
  rw [dsub_eq]; exact h
/-- a product: worth z * w over 2^1074 -/
theorem own_dmul {x y : UInt64} {z w u : Int} (hx : own_D x z) (hy : own_D y w) (r : own_Rep u) (hu : z * w = u * ((2 ^ 1074 : Nat) : Int)) : own_D (FP.dmul x y) u := by
  have r' := r
  obtain ⟨V, fV, ⟨s, c, q, hV⟩, eV⟩ := r
  have nV : V ≠ .nan := by rw [hV]; exact Datum.noConfusion
  obtain ⟨s1, c1, q1, e1⟩ := hx.1
  obtain ⟨s2, c2, q2, e2⟩ := hy.1
  have f1 := val64_fits x
  have f2 := val64_fits y
  have z1 := hx.2
  have z2 := hy.2
  rw [e1] at f1 z1
  rw [e2] at f2 z2
  obtain ⟨p1, p2, p3⟩ := product_units f1 f2
  have hs : signed (s1 != s2) (inUnits (c1 * c2) (q1 + q2) (2 * b64.qmin)) = z * w := by
    rw [p3, ← z1, ← z2]
    unfold zval
    show signed (s1 != s2) _ = signed s1 _ * signed s2 _
    cases s1 <;> cases s2 <;> simp [signed, Int.neg_mul, Int.mul_neg]
  have hP : ((2 ^ (b64.qmin - 2 * b64.qmin).toNat : Nat) : Int) = ((2 ^ 1074 : Nat) : Int) := by rw [qmin_b64]; rfl
  have e : zval b64 (val64 (Core.dmul x y)) = u := by
    rw [val64_dmul, e1, e2, p1]
    have h1 := zval_round_le good_b64 (s := (s1 != s2)) (c := c1 * c2) (q := q1 + q2) (e0 := 2 * b64.qmin) fV nV (by rw [qmin_b64]; omega) p2 (by rw [hs, hu, eV, hP]; exact Int.le_refl _)
    have h2 := zval_round_ge good_b64 (s := (s1 != s2)) (c := c1 * c2) (q := q1 + q2) (e0 := 2 * b64.qmin) fV nV (by rw [qmin_b64]; omega) p2 (by rw [hs, hu, eV, hP]; exact Int.le_refl _)
    omega
  refine own_of ?_ r' e
  show val64 (Core.dmul x y) ≠ .nan
  rw [val64_dmul, e1, e2, p1]
  exact roundRatio_ne_nan _ _ _ _ _
/-- a quotient by something positive: u * w = z * 2^1074 -/
theorem own_ddiv {x y : UInt64} {z w u : Int} (hx : own_D x z) (hy : own_D y w) (hw : 0 < w) (r : own_Rep u) (hu : u * w = z * ((2 ^ 1074 : Nat) : Int)) : own_D (FP.ddiv x y) u := by
  have r' := r
  obtain ⟨V, fV, ⟨s, c, q, hV⟩, eV⟩ := r
  have nV : V ≠ .nan := by rw [hV]; exact Datum.noConfusion
  obtain ⟨s1, c1, q1, e1⟩ := hx.1
  obtain ⟨s2, c2, q2, e2⟩ := hy.1
  have f1 := val64_fits x
  have f2 := val64_fits y
  have z1 := hx.2
  have z2 := hy.2
  rw [e1] at f1 z1
  rw [e2] at f2 z2
  have z1' : signed s1 (c1 * 2 ^ (q1 + 1074).toNat) = z := by
    rw [← z1]; show _ = signed s1 (inUnits c1 q1 b64.qmin); unfold inUnits; rw [qmin_b64]; rw [show q1 - -1074 = q1 + 1074 by omega]
  have z2' : signed s2 (c2 * 2 ^ (q2 + 1074).toNat) = w := by
    rw [← z2]; show _ = signed s2 (inUnits c2 q2 b64.qmin); unfold inUnits; rw [qmin_b64]; rw [show q2 - -1074 = q2 + 1074 by omega]
  have g1 : -1074 ≤ q1 := by have := f1.2.1; rw [qmin_b64] at this; exact this
  have g2 : -1074 ≤ q2 := by have := f2.2.1; rw [qmin_b64] at this; exact this
  have hs2 : s2 = false ∧ 0 < c2 := by
    cases s2
    · refine ⟨rfl, Nat.pos_of_ne_zero fun h => ?_⟩
      subst h; simp [signed] at z2'; omega
    · simp only [signed, if_true] at z2'; omega
  obtain ⟨rfl, hc2⟩ := hs2
  have hval : val64 (Core.ddiv x y) = roundRatio b64 (s1 != false) c1 c2 (q1 - q2) := by
    rw [val64_ddiv, e1, e2]
    show (if c2 = 0 then _ else _) = _
    rw [if_neg (by omega)]
  have hb : (s1 != false) = s1 := by cases s1 <;> rfl
  rw [hb] at hval
  -- magnitudes
  have hz : z.natAbs = c1 * 2 ^ (q1 + 1074).toNat := by rw [← z1']; exact natAbs_signed _ _
  have hw' : w = ((c2 * 2 ^ (q2 + 1074).toNat : Nat) : Int) := by rw [← z2']; rfl
  have hm : zmag b64 V * (c2 * 2 ^ (q2 + 1074).toNat) = c1 * 2 ^ (q1 + 1074).toNat * 2 ^ 1074 := by
    have h1 : (zval b64 V).natAbs = zmag b64 V := natAbs_signed _ _
    have h2 : (u * w).natAbs = (z * ((2 ^ 1074 : Nat) : Int)).natAbs := by rw [hu]
    rw [Int.natAbs_mul, Int.natAbs_mul, ← eV, h1, hz, Int.natAbs_natCast, hw', Int.natAbs_natCast] at h2
    exact h2
  -- a common low exponent
  have hq : inUnits c1 (q1 - q2) (-1074 - (q2 + 1074)) = c1 * 2 ^ (q1 + 1074).toNat * 2 ^ 1074 := by
    unfold inUnits
    rw [show (q1 - q2 - (-1074 - (q2 + 1074))).toNat = (q1 + 1074).toNat + 1074 by omega, Nat.pow_add, Nat.mul_assoc]
  have hP : (b64.qmin - (-1074 - (q2 + 1074))).toNat = (q2 + 1074).toNat := by rw [qmin_b64]; omega
  have hmm : zmag b64 V * 2 ^ (q2 + 1074).toNat * c2 = inUnits c1 (q1 - q2) (-1074 - (q2 + 1074)) := by
    rw [hq, ← hm, Nat.mul_assoc, Nat.mul_comm (2 ^ (q2 + 1074).toNat) c2]
  have l1 := zmag_roundRatio_le good_b64 (s := s1) (A := c1) (e := q1 - q2) (e0 := -1074 - (q2 + 1074)) hc2 fV nV (by rw [qmin_b64]; omega) (by omega) (by rw [hP, hmm]; exact Nat.le_refl _)
  have l2 := zmag_roundRatio_ge good_b64 (s := s1) (A := c1) (e := q1 - q2) (e0 := -1074 - (q2 + 1074)) hc2 fV (by rw [qmin_b64]; omega) (by omega) (by rw [hP, hmm]; exact Nat.le_refl _)
  have hmag : zmag b64 (val64 (Core.ddiv x y)) = zmag b64 V := by rw [hval]; omega
  have e : zval b64 (val64 (Core.ddiv x y)) = u := by
    unfold zval
    rw [hmag, hval, sgn_roundRatio]
    have h1 : (zval b64 V).natAbs = zmag b64 V := natAbs_signed _ _
    rw [eV] at h1
    -- the sign of u is that of z
    have hp : (0 : Int) < ((2 ^ 1074 : Nat) : Int) := Int.natCast_pos.mpr (Nat.two_pow_pos 1074)
    cases s1
    · have hz0 : 0 ≤ z := by rw [← z1']; simp [signed]; exact Int.natCast_nonneg _
      have : 0 ≤ u := by
        have : 0 ≤ u * w := by rw [hu]; exact Int.mul_nonneg hz0 (by omega)
        exact Int.nonneg_of_mul_nonneg_left this hw
      show ((zmag b64 V : Nat) : Int) = u
      omega
    · have hz0 : z ≤ 0 := by
        rw [← z1']; simp only [signed, if_true]; omega
      have : u ≤ 0 := by
        have h3 : 0 ≤ (-u) * w := by
          rw [Int.neg_mul, hu, ← Int.neg_mul]; exact Int.mul_nonneg (by omega) (by omega)
        have := Int.nonneg_of_mul_nonneg_left h3 hw
        omega
      show -((zmag b64 V : Nat) : Int) = u
      omega
  refine own_of ?_ r' e
  show val64 (Core.ddiv x y) ≠ .nan
  rw [hval]
  exact roundRatio_ne_nan _ _ _ _ _
theorem own_l2d {a : Int64} (h : a.toInt.natAbs ≤ 9007199254740992) : own_D (FP.l2d a) (a.toInt * ((2 ^ 1074 : Nat) : Int)) := by
  refine ⟨Core.l2d_fin a, ?_⟩
  exact DInt_zval (l2d_int (show _ ≤ 2 ^ 53 by omega))
theorem own_i2d (a : Int32) : own_D (FP.i2d a) (a.toInt * ((2 ^ 1074 : Nat) : Int)) := ⟨Core.i2d_fin a, DInt_zval (i2d_int a)⟩
theorem own_dcmp {x y : UInt64} {z w : Int} (hx : own_D x z) (hy : own_D y w) : FP.dcmp x y = some (compare z w) := by
  have h := dcmp_zval hx.nn hy.nn
  rw [hx.2, hy.2] at h
  exact h
theorem own_deq {x y : UInt64} {z : Int} (hx : own_D x z) (hy : own_D y z) (o : Jvm.ClassFile.CmpOp) : Jvm.Op.cmpValue (FP.dcmp x y) o = 0 := by
  rw [own_dcmp hx hy, show compare z z = .eq from (compare_eq_iff z z).mpr rfl]; rfl
end OwnDy
end Jvm.FP.Core
namespace Jvm.FP.Core
section OwnVol
theorem own_pp (a b : Nat) : ((2 ^ a : Nat) : Int) * ((2 ^ b : Nat) : Int) = ((2 ^ (a + b) : Nat) : Int) := by rw [← Int.natCast_mul, ← Nat.pow_add]
theorem own_rep2 (c : Int) (k j : Nat) (hk : k ≤ 2045 + j) (hc : c.natAbs * 2 ^ j < 9007199254740992) : own_Rep (c * ((2 ^ k : Nat) : Int)) := by
  by_cases h : k ≤ 2045
  · refine own_rep c k ?_ h
    have := Nat.le_mul_of_pos_right c.natAbs (Nat.two_pow_pos j)
    omega
  · have e : c * ((2 ^ k : Nat) : Int) = (c * ((2 ^ (k - 2045) : Nat) : Int)) * ((2 ^ 2045 : Nat) : Int) := by
      rw [Int.mul_assoc, own_pp, show k - 2045 + 2045 = k by omega]
    rw [e]
    refine own_rep _ 2045 ?_ (Nat.le_refl _)
    rw [Int.natAbs_mul, Int.natAbs_natCast]
    refine Nat.lt_of_le_of_lt (Nat.mul_le_mul_left _ (Nat.pow_le_pow_right (by decide) (show k - 2045 ≤ j by omega))) hc
def own_four : UInt64 := 4616189618054758400
theorem own_D4 : own_D own_four (4 * ((2 ^ 1074 : Nat) : Int)) := ⟨⟨false, 2 ^ 52, -50, by decide +kernel⟩, by decide +kernel⟩
theorem own_D16 : own_D 4625196817309499392 (16 * ((2 ^ 1074 : Nat) : Int)) := ⟨⟨false, 2 ^ 52, -48, by decide +kernel⟩, by decide +kernel⟩
theorem own_D64 : own_D 4634204016564240384 (64 * ((2 ^ 1074 : Nat) : Int)) := ⟨⟨false, 2 ^ 52, -46, by decide +kernel⟩, by decide +kernel⟩
theorem own_D1009 : own_D 9151314442816847872 (1 * ((2 ^ 2083 : Nat) : Int)) := ⟨⟨false, 2 ^ 52, 957, by decide +kernel⟩, by decide +kernel⟩
theorem own_D1007 : own_D 9142307243562106880 (1 * ((2 ^ 2081 : Nat) : Int)) := ⟨⟨false, 2 ^ 52, 955, by decide +kernel⟩, by decide +kernel⟩
theorem own_Tp (k : Nat) : (0 : Int) < ((2 ^ k : Nat) : Int) := Int.natCast_pos.mpr (Nat.two_pow_pos k)
/-- a product of whole multiples of powers of two -/
theorem own_mulP {x y : UInt64} {c n : Int} {A B D : Nat} (hx : own_D x (c * ((2 ^ A : Nat) : Int))) (hy : own_D y (n * ((2 ^ B : Nat) : Int))) (e : A + B = D + 1074) (r : own_Rep (c * n * ((2 ^ D : Nat) : Int))) : own_D (FP.dmul x y) (c * n * ((2 ^ D : Nat) : Int)) := by
  refine own_dmul hx hy r ?_
  calc c * ((2 ^ A : Nat) : Int) * (n * ((2 ^ B : Nat) : Int)) = c * n * (((2 ^ A : Nat) : Int) * ((2 ^ B : Nat) : Int)) := by
        generalize ((2 ^ A : Nat) : Int) = P
        generalize ((2 ^ B : Nat) : Int) = R
        ac_rfl
    _ = c * n * (((2 ^ D : Nat) : Int) * ((2 ^ 1074 : Nat) : Int)) := by rw [own_pp, own_pp, e]
    _ = c * n * ((2 ^ D : Nat) : Int) * ((2 ^ 1074 : Nat) : Int) := by rw [Int.mul_assoc (c * n)]
/-- over four -/
theorem own_div4 {x : UInt64} {c : Int} {E : Nat} (hx : own_D x (c * ((2 ^ (E + 2) : Nat) : Int))) (r : own_Rep (c * ((2 ^ E : Nat) : Int))) : own_D (FP.ddiv x own_four) (c * ((2 ^ E : Nat) : Int)) := by
  refine own_ddiv hx own_D4 (Int.mul_pos (by decide) (own_Tp _)) r ?_
  have e : ((2 ^ (E + 2) : Nat) : Int) = ((2 ^ E : Nat) : Int) * 4 := by rw [← own_pp]; rfl
  rw [e]
  generalize ((2 ^ 1074 : Nat) : Int) = T
  generalize ((2 ^ E : Nat) : Int) = P
  ac_rfl
/-- one axis: the low corner, the high corner, the window; n its extent in units of 2^E -/
def own_ext (x y z : UInt64) (n : Int) (E : Nat) : Prop := ∃ lo hi k : Int, lo.natAbs < 32768 ∧ hi.natAbs ≤ 32771 ∧ k.natAbs < 65536 ∧ n = hi - lo + k ∧ n.natAbs < 131072 ∧ own_D x (lo * ((2 ^ (E + 2) : Nat) : Int)) ∧ own_D y (hi * ((2 ^ (E + 2) : Nat) : Int)) ∧ own_D z (k * ((2 ^ E : Nat) : Int))
theorem own_extent {x y z : UInt64} {n : Int} {E : Nat} (h : own_ext x y z n E) (hE : E ≤ 2081) : ∃ u v w, own_D (FP.ddiv y own_four) u ∧ own_D (FP.ddiv x own_four) v ∧ own_D (FP.dsub (FP.ddiv y own_four) (FP.ddiv x own_four)) w ∧ own_D (FP.dadd (FP.dsub (FP.ddiv y own_four) (FP.ddiv x own_four)) z) (n * ((2 ^ E : Nat) : Int)) := by
  obtain ⟨lo, hi, k, h1, h2, h3, h4, h5, hx, hy, hz⟩ := h
  have d1 := own_div4 hy (own_rep2 hi E 37 (by omega) (by omega))
  have d2 := own_div4 hx (own_rep2 lo E 38 (by omega) (by omega))
  have d3 := own_dsub d1 d2 (by rw [← Int.sub_mul]; exact own_rep2 (hi - lo) E 36 (by omega) (by omega))
  rw [← Int.sub_mul] at d3
  have d4 := own_dadd d3 hz (by rw [← Int.add_mul, ← h4]; exact own_rep2 n E 36 (by omega) (by omega))
  rw [← Int.add_mul, ← h4] at d4
  exact ⟨_, _, _, d1, d2, d3, d4⟩
end OwnVol
end Jvm.FP.Core
namespace Jvm.Pilot.@@N@@
open Jvm Jvm.ClassFile Sem Op Lib Jvm.Free Jvm.Stand Jvm.LawKit Jvm.RoadKit Bundle Jvm.Pilot.@@N@@.Jvm.D
open Jvm.FP.Core (own_D own_Rep own_rep own_rep2 own_dadd own_ddiv own_dmul own_l2d own_i2d own_deq own_ext own_extent own_mulP own_div4 own_D4 own_D16 own_D64 own_D1007 own_D1009 own_four own_Tp own_pp)
theorem own_rem (a : Int64) : -32768 < ((a - (a / (32768 : Int64)) * (32768 : Int64)).toInt32).toInt ∧ ((a - (a / (32768 : Int64)) * (32768 : Int64)).toInt32).toInt < 32768 := by
  have h := c_lrem a 32768 32768 (by decide)
  have l := c_l2i (a - (a / (32768 : Int64)) * (32768 : Int64))
  have r := rng32 (a - (a / (32768 : Int64)) * (32768 : Int64)).toInt32
  by_cases q : 0 ≤ a.toInt
  · have := h.1 q
    omega
  · have := h.2 (by omega)
    omega
theorem own_mask16 (x : Int64) : 0 ≤ ((x &&& (65535 : Int64)).toInt32).toInt ∧ ((x &&& (65535 : Int64)).toInt32).toInt < 65536 := by
  have h := c_maskL x 65535 16 (by decide) (by decide)
  have l := c_l2i (x &&& 65535)
  have r := rng32 (x &&& 65535).toInt32
  omega
theorem own_mm (x y : Int32) (hx : -32768 < x.toInt ∧ x.toInt < 32768) (hy : -32768 < y.toInt ∧ y.toInt < 32768) : (-32768 < (if y < x then y else x).toInt ∧ (if y < x then y else x).toInt ≤ (if x < y then y else x).toInt ∧ (if x < y then y else x).toInt < 32768) := by
  have h1 : x < y ↔ x.toInt < y.toInt := Int32.lt_iff_toInt_lt
  have h2 : y < x ↔ y.toInt < x.toInt := Int32.lt_iff_toInt_lt
  by_cases p : x < y <;> by_cases q : y < x <;> simp only [p, q, if_true, if_false] <;> rw [h1] at p <;> rw [h2] at q <;> omega
theorem own_and3 (x : Int32) : ∃ i : Nat, (x &&& (3 : Int32)).toInt = (i : Int) ∧ i < 4 := by
  have h := c_mask x 3 2 (by decide) (by decide)
  exact ⟨(x &&& 3).toInt.toNat, by omega, by omega⟩
theorem own_dims (x : Int32) : ((x &&& (3 : Int32)) % (3 : Int32) + (1 : Int32)) = 1 ∨ ((x &&& (3 : Int32)) % (3 : Int32) + (1 : Int32)) = 2 ∨ ((x &&& (3 : Int32)) % (3 : Int32) + (1 : Int32)) = 3 := by
  have h := c_mask x 3 2 (by decide) (by decide)
  have h2 := (c_irem (x &&& 3) 3 3 (by decide)).1
  have h3 := c_iadd ((x &&& 3) % 3) 1
  have h4 := rng32 ((x &&& 3) % 3 + 1)
  rw [show (1 : Int32).toInt = 1 by decide] at h3
  rw [← Int32.toInt_inj, ← Int32.toInt_inj, ← Int32.toInt_inj, show (1 : Int32).toInt = 1 by decide, show (2 : Int32).toInt = 2 by decide, show (3 : Int32).toInt = 3 by decide]
  omega
theorem own_ax (x d : Int32) (D : Nat) (hd : d.toInt = (D : Int)) (hD : 0 < D) : ∃ i : Nat, ((x &&& (3 : Int32)) % d).toInt = (i : Int) ∧ i < D := by
  have h := c_mask x 3 2 (by decide) (by decide)
  have h2 := (c_iremV (x &&& 3) d).1 (by omega) (by omega)
  exact ⟨((x &&& 3) % d).toInt.toNat, by omega, by omega⟩
theorem own_addn {x y : Int32} {i e : Nat} (h : x.toInt = (i : Int)) (h' : y.toInt = (e : Int)) (hi : i < 1000) (he : e < 1000) : (x + y).toInt = ((i + e : Nat) : Int) := by
  have h1 := c_iadd x y
  have h2 := rng32 (x + y)
  omega
theorem own_lit (x : Int32) (n : Nat) (h : x.toInt = (n : Int)) {y : Int32} (hy : y.toInt = (n : Int)) : x = y := by rw [← Int32.toInt_inj, h, hy]
theorem own_i2dP (x : Int32) : own_D (FP.i2d x) (x.toInt * ((2 ^ (1072 + 2) : Nat) : Int)) := own_i2d x
/-- a row of the law's fill, by its mode -/
theorem own_fill0 (xl xh xk : Int32) (b : -32768 < xl.toInt ∧ xl.toInt ≤ xh.toInt ∧ xh.toInt < 32768) (bk : 0 ≤ xk.toInt ∧ xk.toInt < 65536) : own_ext (FP.i2d xl) (FP.i2d xh) (FP.ddiv (FP.i2d xk) own_four) (xh.toInt - xl.toInt + xk.toInt) 1072 := by
  refine ⟨xl.toInt, xh.toInt, xk.toInt, by omega, by omega, by omega, rfl, by omega, own_i2dP xl, own_i2dP xh, ?_⟩
  exact own_div4 (own_i2dP xk) (own_rep _ _ (by omega) (by decide))
theorem own_ext_nn {x y z : UInt64} {n : Int} {E : Nat} (h : own_ext x y z n E) : Jvm.Free.Fl.NoNaN64 x ∧ Jvm.Free.Fl.NoNaN64 y ∧ Jvm.Free.Fl.NoNaN64 z := by
  obtain ⟨lo, hi, k, -, -, -, -, -, hx, hy, hz⟩ := h
  exact ⟨hx.n64, hy.n64, hz.n64⟩
theorem own_scaled (x : Int32) {c : UInt64} {P j : Nat} (hc : own_D c (1 * ((2 ^ P : Nat) : Int))) (hP : P ≤ 2045 + j) (hj : x.toInt.natAbs * 2 ^ j < 9007199254740992) : own_D (FP.dmul (FP.i2d x) c) (x.toInt * ((2 ^ P : Nat) : Int)) := by
  have h := own_mulP (D := P) (own_i2d x) hc (Nat.add_comm _ _) (by rw [Int.mul_one]; exact own_rep2 _ _ j hP hj)
  rw [Int.mul_one] at h
  exact h
theorem own_fill1 (xl xh xk : Int32) (b : -32768 < xl.toInt ∧ xl.toInt ≤ xh.toInt ∧ xh.toInt < 32768) (bk : 0 ≤ xk.toInt ∧ xk.toInt < 65536) : own_ext (FP.dmul (FP.i2d xl) 9151314442816847872) (FP.dmul (FP.i2d xh) 9151314442816847872) (FP.dmul (FP.i2d xk) 9142307243562106880) (xh.toInt - xl.toInt + xk.toInt) 2081 :=
  ⟨xl.toInt, xh.toInt, xk.toInt, by omega, by omega, by omega, rfl, by omega, own_scaled xl (j := 38) own_D1009 (by decide) (by omega), own_scaled xh (j := 38) own_D1009 (by decide) (by omega), own_scaled xk (j := 36) own_D1007 (by decide) (by omega)⟩
theorem own_fill2 (xx xe : Int32) (b : -32768 < xx.toInt ∧ xx.toInt < 32768) (be : 0 ≤ xe.toInt ∧ xe.toInt < 4) : own_ext (FP.i2d xx) (FP.i2d (xx + xe)) (FP.ddiv (FP.i2d ((4 : Int32) - xe)) own_four) 4 1072 := by
  have h1 := c_iadd xx xe
  have h2 := rng32 (xx + xe)
  have h3 := c_isub 4 xe
  have h4 := rng32 (4 - xe)
  rw [show (4 : Int32).toInt = 4 by decide] at h3
  refine ⟨xx.toInt, (xx + xe).toInt, (4 - xe).toInt, by omega, by omega, by omega, by omega, by omega, own_i2dP _, own_i2dP _, ?_⟩
  exact own_div4 (own_i2dP _) (own_rep _ _ (by omega) (by decide))
theorem own_nlong (xl xh xk : Int32) (b : -32768 < xl.toInt ∧ xl.toInt ≤ xh.toInt ∧ xh.toInt < 32768) (bk : 0 ≤ xk.toInt ∧ xk.toInt < 65536) : ((xh - xl).toInt64 + xk.toInt64).toInt = xh.toInt - xl.toInt + xk.toInt := by
  have h1 := c_isub xh xl
  have h2 := rng32 (xh - xl)
  have h3 := c_ladd (xh - xl).toInt64 xk.toInt64
  have h4 := rng64 ((xh - xl).toInt64 + xk.toInt64)
  rw [c_i2l, c_i2l] at h3
  omega
def own_EX (xm : Int32) : Nat := if xm = 1 then 2081 else 1072
theorem own_nb {x y z : UInt64} {n : Int} {E : Nat} (h : own_ext x y z n E) : n.natAbs < 131072 := by obtain ⟨_, _, _, -, -, -, -, h, -⟩ := h; exact h
theorem own_b2 {a b : Int} (ha : a.natAbs < 131072) (hb : b.natAbs < 131072) : (a * b).natAbs < 9007199254740992 := by
  rw [Int.natAbs_mul]
  have := Nat.mul_le_mul (show a.natAbs ≤ 131072 by omega) (show b.natAbs ≤ 131072 by omega)
  omega
theorem own_b3 {a b c : Int} (ha : a.natAbs < 131072) (hb : b.natAbs < 131072) (hc : c.natAbs < 131072) : (a * b * c).natAbs < 9007199254740992 := by
  rw [Int.natAbs_mul, Int.natAbs_mul]
  have h1 := Nat.mul_le_mul (show a.natAbs ≤ 131072 by omega) (show b.natAbs ≤ 131072 by omega)
  have h2 := Nat.mul_le_mul h1 (show c.natAbs ≤ 131072 by omega)
  omega
theorem own_b2s {a b : Int} (ha : a.natAbs < 131072) (hb : b.natAbs < 131072) : (a * b * 16).natAbs < 9007199254740992 := by
  rw [Int.natAbs_mul, Int.natAbs_mul]
  have := Nat.mul_le_mul (show a.natAbs ≤ 131072 by omega) (show b.natAbs ≤ 131072 by omega)
  rw [show (16 : Int).natAbs = 16 from rfl]
  omega
theorem own_mul2 {x y : Int64} {a b : Int} (hx : x.toInt = a) (hy : y.toInt = b) (ha : a.natAbs < 131072) (hb : b.natAbs < 131072) : (x * y).toInt = a * b := by
  have h := c_lmul x y
  have r := rng64 (x * y)
  have q := own_b2 ha hb
  rw [hx, hy] at h
  generalize a * b = u at *
  omega
theorem own_mul3 {x y z : Int64} {a b c : Int} (hx : x.toInt = a) (hy : y.toInt = b) (hz : z.toInt = c) (ha : a.natAbs < 131072) (hb : b.natAbs < 131072) (hc : c.natAbs < 131072) : (x * y * z).toInt = a * b * c := by
  have h := c_lmul (x * y) z
  have r := rng64 (x * y * z)
  have q := own_b3 ha hb hc
  rw [own_mul2 hx hy ha hb, hz] at h
  generalize a * b * c = u at *
  omega
theorem own_k4 (a b c : Nat) (h : a + c = b) (n : Int) (m : Int) (hm : m = ((2 ^ c : Nat) : Int)) : n * m * ((2 ^ a : Nat) : Int) = n * ((2 ^ b : Nat) : Int) := by
  rw [hm, Int.mul_assoc, own_pp, show c + a = b by omega]
theorem own_sc1 (n : Int) : n * 4 * ((2 ^ 1072 : Nat) : Int) = n * ((2 ^ 1074 : Nat) : Int) := own_k4 1072 1074 2 rfl n 4 rfl
theorem own_sc2 (n : Int) : n * 16 * ((2 ^ 1070 : Nat) : Int) = n * ((2 ^ 1074 : Nat) : Int) := own_k4 1070 1074 4 rfl n 16 rfl
theorem own_sc3 (n : Int) : n * 64 * ((2 ^ 1068 : Nat) : Int) = n * ((2 ^ 1074 : Nat) : Int) := own_k4 1068 1074 6 rfl n 64 rfl
theorem own_four2a (n : Int) : n * 4 * ((2 ^ 2079 : Nat) : Int) = n * ((2 ^ 2081 : Nat) : Int) := own_k4 2079 2081 2 rfl n 4 rfl
theorem own_four2b (n : Int) : 4 * n * ((2 ^ 2079 : Nat) : Int) = n * ((2 ^ 2081 : Nat) : Int) := by rw [Int.mul_comm 4 n]; exact own_four2a n
theorem own_four3a (n : Int) : n * 4 * 4 * ((2 ^ 2077 : Nat) : Int) = n * ((2 ^ 2081 : Nat) : Int) := by rw [Int.mul_assoc n 4 4]; exact own_k4 2077 2081 4 rfl n 16 rfl
theorem own_four3b (n : Int) : 4 * n * 4 * ((2 ^ 2077 : Nat) : Int) = n * ((2 ^ 2081 : Nat) : Int) := by rw [Int.mul_comm 4 n]; exact own_four3a n
theorem own_four3c (n : Int) : 4 * 4 * n * ((2 ^ 2077 : Nat) : Int) = n * ((2 ^ 2081 : Nat) : Int) := by rw [Int.mul_comm (4 * 4) n]; exact own_k4 2077 2081 4 rfl n (4 * 4) rfl
theorem own_ef1 (m : MethodId) (x0 : Int32) (x1 : Int32) : entryFrame m #[(.int x0), (.int x1)] 2 = mkF m 0 #[.val (.int x0), .val (.int x1)] [] := by first | (simp [entryFrame, mkF, argsToLocals, Value.category]; done) | rfl
theorem own_d_jdk_29_65_0 : decode jdk_29_method_65_code 0 = .ok (.iload_n 0, 1) := by decide +kernel
theorem own_d_jdk_29_65_1 : decode jdk_29_method_65_code 1 = .ok (.iload_n 1, 1) := by decide +kernel
theorem own_d_jdk_29_65_2 : decode jdk_29_method_65_code 2 = .ok (.if_icmp .lt 7, 3) := by decide +kernel
theorem own_d_jdk_29_65_9 : decode jdk_29_method_65_code 9 = .ok (.iload_n 1, 1) := by decide +kernel
theorem own_d_jdk_29_65_10 : decode jdk_29_method_65_code 10 = .ok (.ireturn, 1) := by decide +kernel
theorem own_d_jdk_29_65_5 : decode jdk_29_method_65_code 5 = .ok (.iload_n 0, 1) := by decide +kernel
theorem own_d_jdk_29_65_6 : decode jdk_29_method_65_code 6 = .ok (.goto 4, 3) := by decide +kernel
def own_Q_own_max (Z : State) (xa xb : Int32) (h0 : Heap) (n0 : Nat) (v : Option Value) (h : Heap) (L : List Loc) : Prop := v = some (.int (if xa < xb then xb else xa)) ∧ Fr n0 L ∧ h = h0
set_option maxRecDepth 65536 in
set_option maxHeartbeats 40000000 in
theorem own_max (l : Launch) (Z : State) (a0 : Array Value) (hw : ∀ d ∈ tables_1, d.before a0 Z = true) (ws : List Jvm.Cond) (xa xb : Int32) (h0 : Heap) (n0 : Nat) (Z0 : n0 ≤ h0.size)  :
    MetFree l (⟨"java/lang/Math", "max", "(II)I"⟩ : MethodName) (head1 (Jvm.Cond.code (⟨"java/lang/Math", "max", "(II)I"⟩ : MethodName) jdk_29_method_65_code 2 (some .int) :: ws) ({ frames := 0, cells := 0, slots := 0, locals := 0 } : Room)) (fun av_ U => av_ = #[(.int xa), (.int xb)] ∧ Z.Warmed39 U.vm ∧ U.heap = h0) (fun _ _ _ _ _ => True) (fun _ U o U' => ∃ v L, o = .returned v ∧ own_Q_own_max Z xa xb h0 n0 v U'.heap L ∧ FrameEnd U o U' L ({ frames := 0, cells := 0, slots := 0, locals := 0 } : Room).cells ({ frames := 0, cells := 0, slots := 0, locals := 0 } : Room).slots) := by
  refine MetFree.of_bodySF (by decide +kernel) hisR ?_
  intro p e s m args below meth c s₁ Bd hml0 hP hK
  obtain ⟨rfl, hZ, hh⟩ := hP
  have hx := Bd.exec
  have hby := Bd.bytes
  have hml : c.maxLocals = 2 := hml0
  have hown : s.vm.findClass "java/lang/Math" = some m.cls := findClass_of_methodNamed Bd.named
  have hnm := (name_of_methodNamed Bd.named Bd.method).1
  have X0 : Stand p l e ({ frames := 0, cells := 0, slots := 0, locals := 0 } : Room) s m #[(.int xa), (.int xb)] below meth c s₁ [] 0 0 := Stand.of_body Bd
  have e0 : s₁.heap = h0 := by rw [← hh, Bd.state]; rfl
  have N0 := Fr.nil n0
  suffices hgo : own_Go p e below (fun o U' => ∃ v L, o = .returned v ∧ own_Q_own_max Z xa xb h0 n0 v U'.heap L ∧ FrameEnd s o U' L ({ frames := 0, cells := 0, slots := 0, locals := 0 } : Room).cells ({ frames := 0, cells := 0, slots := 0, locals := 0 } : Room).slots) (s₁.setTop (mkF m 0 #[.val (.int xa), .val (.int xb)] [])) by
    obtain ⟨s₂, o, h1, h2, h3, h4⟩ := hgo
    exact ⟨s₂, o, castTop (own_ef1 m xa xb) h1, h2, h3, h4⟩
  show own_Go p e below _ (s₁.setTop (mkF m 0 #[.val (.int xa), .val (.int xb)] []))
  refine own_Go.st (fun _ kt => XS.iloadN X0.here hx rfl (hb hby own_d_jdk_29_65_0) rfl kt) ?_
  show own_Go p e below _ (s₁.setTop (mkF m 1 #[.val (.int xa), .val (.int xb)] [(.int xa)]))
  refine own_Go.st (fun _ kt => XS.iloadN X0.here hx rfl (hb hby own_d_jdk_29_65_1) rfl kt) ?_
  show own_Go p e below _ (s₁.setTop (mkF m 2 #[.val (.int xa), .val (.int xb)] [(.int xb), (.int xa)]))
  by_cases hc : xa < xb
  · refine own_Go.st (fun _ kt => XS.icmpYes X0.here hx rfl (pc0 := 2) (pc' := 9) rfl (hb hby own_d_jdk_29_65_2) rfl (tlt hc).1 (by decide) (by decide) kt) ?_
    show own_Go p e below _ (s₁.setTop (mkF m 9 #[.val (.int xa), .val (.int xb)] []))
    refine own_Go.st (fun _ kt => XS.iloadN X0.here hx rfl (hb hby own_d_jdk_29_65_9) rfl kt) ?_
    show own_Go p e below _ (s₁.setTop (mkF m 10 #[.val (.int xa), .val (.int xb)] [(.int xb)]))
    exact own_retI X0 hx Bd.notSynchronized Bd.returns (hb hby own_d_jdk_29_65_10) (by decide) (by decide) ⟨by simp [hc], N0, e0⟩
  · refine own_Go.st (fun _ kt => XS.icmpNo X0.here hx rfl (hb hby own_d_jdk_29_65_2) rfl (flt hc).1 kt) ?_
    show own_Go p e below _ (s₁.setTop (mkF m 5 #[.val (.int xa), .val (.int xb)] []))
    refine own_Go.st (fun _ kt => XS.iloadN X0.here hx rfl (hb hby own_d_jdk_29_65_5) rfl kt) ?_
    show own_Go p e below _ (s₁.setTop (mkF m 6 #[.val (.int xa), .val (.int xb)] [(.int xa)]))
    refine own_Go.st (fun _ kt => XS.goto X0.here hx rfl (pc0 := 6) (pc' := 10) rfl (hb hby own_d_jdk_29_65_6) (by decide) (by decide) kt) ?_
    show own_Go p e below _ (s₁.setTop (mkF m 10 #[.val (.int xa), .val (.int xb)] [(.int xa)]))
    exact own_retI X0 hx Bd.notSynchronized Bd.returns (hb hby own_d_jdk_29_65_10) (by decide) (by decide) ⟨by simp [hc], N0, e0⟩
theorem own_ef2 (m : MethodId) (x0 : Int32) (x1 : Int32) : entryFrame m #[(.int x0), (.int x1)] 2 = mkF m 0 #[.val (.int x0), .val (.int x1)] [] := by first | (simp [entryFrame, mkF, argsToLocals, Value.category]; done) | rfl
theorem own_d_jdk_29_69_0 : decode jdk_29_method_69_code 0 = .ok (.iload_n 0, 1) := by decide +kernel
theorem own_d_jdk_29_69_1 : decode jdk_29_method_69_code 1 = .ok (.iload_n 1, 1) := by decide +kernel
theorem own_d_jdk_29_69_2 : decode jdk_29_method_69_code 2 = .ok (.if_icmp .gt 7, 3) := by decide +kernel
theorem own_d_jdk_29_69_9 : decode jdk_29_method_69_code 9 = .ok (.iload_n 1, 1) := by decide +kernel
theorem own_d_jdk_29_69_10 : decode jdk_29_method_69_code 10 = .ok (.ireturn, 1) := by decide +kernel
theorem own_d_jdk_29_69_5 : decode jdk_29_method_69_code 5 = .ok (.iload_n 0, 1) := by decide +kernel
theorem own_d_jdk_29_69_6 : decode jdk_29_method_69_code 6 = .ok (.goto 4, 3) := by decide +kernel
def own_Q_own_min (Z : State) (xa xb : Int32) (h0 : Heap) (n0 : Nat) (v : Option Value) (h : Heap) (L : List Loc) : Prop := v = some (.int (if xb < xa then xb else xa)) ∧ Fr n0 L ∧ h = h0
set_option maxRecDepth 65536 in
set_option maxHeartbeats 40000000 in
theorem own_min (l : Launch) (Z : State) (a0 : Array Value) (hw : ∀ d ∈ tables_1, d.before a0 Z = true) (ws : List Jvm.Cond) (xa xb : Int32) (h0 : Heap) (n0 : Nat) (Z0 : n0 ≤ h0.size)  :
    MetFree l (⟨"java/lang/Math", "min", "(II)I"⟩ : MethodName) (head1 (Jvm.Cond.code (⟨"java/lang/Math", "min", "(II)I"⟩ : MethodName) jdk_29_method_69_code 2 (some .int) :: ws) ({ frames := 0, cells := 0, slots := 0, locals := 0 } : Room)) (fun av_ U => av_ = #[(.int xa), (.int xb)] ∧ Z.Warmed39 U.vm ∧ U.heap = h0) (fun _ _ _ _ _ => True) (fun _ U o U' => ∃ v L, o = .returned v ∧ own_Q_own_min Z xa xb h0 n0 v U'.heap L ∧ FrameEnd U o U' L ({ frames := 0, cells := 0, slots := 0, locals := 0 } : Room).cells ({ frames := 0, cells := 0, slots := 0, locals := 0 } : Room).slots) := by
  refine MetFree.of_bodySF (by decide +kernel) hisR ?_
  intro p e s m args below meth c s₁ Bd hml0 hP hK
  obtain ⟨rfl, hZ, hh⟩ := hP
  have hx := Bd.exec
  have hby := Bd.bytes
  have hml : c.maxLocals = 2 := hml0
  have hown : s.vm.findClass "java/lang/Math" = some m.cls := findClass_of_methodNamed Bd.named
  have hnm := (name_of_methodNamed Bd.named Bd.method).1
  have X0 : Stand p l e ({ frames := 0, cells := 0, slots := 0, locals := 0 } : Room) s m #[(.int xa), (.int xb)] below meth c s₁ [] 0 0 := Stand.of_body Bd
  have e0 : s₁.heap = h0 := by rw [← hh, Bd.state]; rfl
  have N0 := Fr.nil n0
  suffices hgo : own_Go p e below (fun o U' => ∃ v L, o = .returned v ∧ own_Q_own_min Z xa xb h0 n0 v U'.heap L ∧ FrameEnd s o U' L ({ frames := 0, cells := 0, slots := 0, locals := 0 } : Room).cells ({ frames := 0, cells := 0, slots := 0, locals := 0 } : Room).slots) (s₁.setTop (mkF m 0 #[.val (.int xa), .val (.int xb)] [])) by
    obtain ⟨s₂, o, h1, h2, h3, h4⟩ := hgo
    exact ⟨s₂, o, castTop (own_ef2 m xa xb) h1, h2, h3, h4⟩
  show own_Go p e below _ (s₁.setTop (mkF m 0 #[.val (.int xa), .val (.int xb)] []))
  refine own_Go.st (fun _ kt => XS.iloadN X0.here hx rfl (hb hby own_d_jdk_29_69_0) rfl kt) ?_
  show own_Go p e below _ (s₁.setTop (mkF m 1 #[.val (.int xa), .val (.int xb)] [(.int xa)]))
  refine own_Go.st (fun _ kt => XS.iloadN X0.here hx rfl (hb hby own_d_jdk_29_69_1) rfl kt) ?_
  show own_Go p e below _ (s₁.setTop (mkF m 2 #[.val (.int xa), .val (.int xb)] [(.int xb), (.int xa)]))
  by_cases hc : xb < xa
  · refine own_Go.st (fun _ kt => XS.icmpYes X0.here hx rfl (pc0 := 2) (pc' := 9) rfl (hb hby own_d_jdk_29_69_2) rfl (tlt hc).2.2.1 (by decide) (by decide) kt) ?_
    show own_Go p e below _ (s₁.setTop (mkF m 9 #[.val (.int xa), .val (.int xb)] []))
    refine own_Go.st (fun _ kt => XS.iloadN X0.here hx rfl (hb hby own_d_jdk_29_69_9) rfl kt) ?_
    show own_Go p e below _ (s₁.setTop (mkF m 10 #[.val (.int xa), .val (.int xb)] [(.int xb)]))
    exact own_retI X0 hx Bd.notSynchronized Bd.returns (hb hby own_d_jdk_29_69_10) (by decide) (by decide) ⟨by simp [hc], N0, e0⟩
  · refine own_Go.st (fun _ kt => XS.icmpNo X0.here hx rfl (hb hby own_d_jdk_29_69_2) rfl (flt hc).2.2.1 kt) ?_
    show own_Go p e below _ (s₁.setTop (mkF m 5 #[.val (.int xa), .val (.int xb)] []))
    refine own_Go.st (fun _ kt => XS.iloadN X0.here hx rfl (hb hby own_d_jdk_29_69_5) rfl kt) ?_
    show own_Go p e below _ (s₁.setTop (mkF m 6 #[.val (.int xa), .val (.int xb)] [(.int xa)]))
    refine own_Go.st (fun _ kt => XS.goto X0.here hx rfl (pc0 := 6) (pc' := 10) rfl (hb hby own_d_jdk_29_69_6) (by decide) (by decide) kt) ?_
    show own_Go p e below _ (s₁.setTop (mkF m 10 #[.val (.int xa), .val (.int xb)] [(.int xa)]))
    exact own_retI X0 hx Bd.notSynchronized Bd.returns (hb hby own_d_jdk_29_69_10) (by decide) (by decide) ⟨by simp [hc], N0, e0⟩
theorem own_pn0 : plainName "com/example/thicket/thicket/PackedLevelGrownVolumePinLaw" = true := by first | (simp [plainName, overriddenIn]; done) | decide +kernel
theorem own_ef3 (m : MethodId) (x0 : Int32) (x1 : Int32) (x2 : Int32) : entryFrame m #[(.int x0), (.int x1), (.int x2)] 3 = mkF m 0 #[.val (.int x0), .val (.int x1), .val (.int x2)] [] := by first | (simp [entryFrame, mkF, argsToLocals, Value.category]; done) | rfl
theorem own_d_method_3_0 : decode method_3_code 0 = .ok (.iload_n 0, 1) := by decide +kernel
theorem own_d_method_3_1 : decode method_3_code 1 = .ok (.ifCond .ne 5, 3) := by decide +kernel
theorem own_d_method_3_4 : decode method_3_code 4 = .ok (.iconst 0, 1) := by decide +kernel
theorem own_d_method_3_5 : decode method_3_code 5 = .ok (.ireturn, 1) := by decide +kernel
theorem own_d_method_3_6 : decode method_3_code 6 = .ok (.iload_n 2, 1) := by decide +kernel
theorem own_d_method_3_7 : decode method_3_code 7 = .ok (.iload_n 1, 1) := by decide +kernel
theorem own_d_method_3_8 : decode method_3_code 8 = .ok (.if_icmp .ne 7, 3) := by decide +kernel
theorem own_d_method_3_11 : decode method_3_code 11 = .ok (.iconst 1, 1) := by decide +kernel
theorem own_d_method_3_12 : decode method_3_code 12 = .ok (.goto 4, 3) := by decide +kernel
theorem own_d_method_3_16 : decode method_3_code 16 = .ok (.ireturn, 1) := by decide +kernel
theorem own_d_method_3_15 : decode method_3_code 15 = .ok (.iconst 2, 1) := by decide +kernel
def own_Q_own_mode (Z : State) (xh xg xa : Int32) (h0 : Heap) (n0 : Nat) (v : Option Value) (h : Heap) (L : List Loc) : Prop := v = some (.int (if xh = 0 then 0 else if xa = xg then 1 else 2)) ∧ Fr n0 L ∧ h = h0
set_option maxRecDepth 65536 in
set_option maxHeartbeats 40000000 in
theorem own_mode (l : Launch) (Z : State) (a0 : Array Value) (hw : ∀ d ∈ tables_1, d.before a0 Z = true) (ws : List Jvm.Cond) (xh xg xa : Int32) (h0 : Heap) (n0 : Nat) (Z0 : n0 ≤ h0.size)  :
    MetFree l (⟨"com/example/thicket/thicket/PackedLevelGrownVolumePinLaw", "mode", "(ZII)I"⟩ : MethodName) (head1 (Jvm.Cond.code (⟨"com/example/thicket/thicket/PackedLevelGrownVolumePinLaw", "mode", "(ZII)I"⟩ : MethodName) method_3_code 3 (some .int) :: ws) ({ frames := 0, cells := 0, slots := 0, locals := 0 } : Room)) (fun av_ U => av_ = #[(.int xh), (.int xg), (.int xa)] ∧ Z.Warmed39 U.vm ∧ U.heap = h0) (fun _ _ _ _ _ => True) (fun _ U o U' => ∃ v L, o = .returned v ∧ own_Q_own_mode Z xh xg xa h0 n0 v U'.heap L ∧ FrameEnd U o U' L ({ frames := 0, cells := 0, slots := 0, locals := 0 } : Room).cells ({ frames := 0, cells := 0, slots := 0, locals := 0 } : Room).slots) := by
  refine MetFree.of_bodySF (plainFor_of_name own_pn0) hisR ?_
  intro p e s m args below meth c s₁ Bd hml0 hP hK
  obtain ⟨rfl, hZ, hh⟩ := hP
  have hx := Bd.exec
  have hby := Bd.bytes
  have hml : c.maxLocals = 3 := hml0
  have hown : s.vm.findClass "com/example/thicket/thicket/PackedLevelGrownVolumePinLaw" = some m.cls := findClass_of_methodNamed Bd.named
  have hnm := (name_of_methodNamed Bd.named Bd.method).1
  have X0 : Stand p l e ({ frames := 0, cells := 0, slots := 0, locals := 0 } : Room) s m #[(.int xh), (.int xg), (.int xa)] below meth c s₁ [] 0 0 := Stand.of_body Bd
  have e0 : s₁.heap = h0 := by rw [← hh, Bd.state]; rfl
  have N0 := Fr.nil n0
  suffices hgo : own_Go p e below (fun o U' => ∃ v L, o = .returned v ∧ own_Q_own_mode Z xh xg xa h0 n0 v U'.heap L ∧ FrameEnd s o U' L ({ frames := 0, cells := 0, slots := 0, locals := 0 } : Room).cells ({ frames := 0, cells := 0, slots := 0, locals := 0 } : Room).slots) (s₁.setTop (mkF m 0 #[.val (.int xh), .val (.int xg), .val (.int xa)] [])) by
    obtain ⟨s₂, o, h1, h2, h3, h4⟩ := hgo
    exact ⟨s₂, o, castTop (own_ef3 m xh xg xa) h1, h2, h3, h4⟩
  show own_Go p e below _ (s₁.setTop (mkF m 0 #[.val (.int xh), .val (.int xg), .val (.int xa)] []))
  refine own_Go.st (fun _ kt => XS.iloadN X0.here hx rfl (hb hby own_d_method_3_0) rfl kt) ?_
  show own_Go p e below _ (s₁.setTop (mkF m 1 #[.val (.int xh), .val (.int xg), .val (.int xa)] [(.int xh)]))
  by_cases hc1 : xh = (0 : Int32)
  · refine own_Go.st (fun _ kt => XS.ifNo X0.here hx rfl (hb hby own_d_method_3_1) rfl ((if0 _ _).trans (teq hc1).2) kt) ?_
    show own_Go p e below _ (s₁.setTop (mkF m 4 #[.val (.int xh), .val (.int xg), .val (.int xa)] []))
    refine own_Go.st (fun _ kt => XS.iconst X0.here hx rfl (hb hby own_d_method_3_4) kt) ?_
    show own_Go p e below _ (s₁.setTop (mkF m 5 #[.val (.int xh), .val (.int xg), .val (.int xa)] [(.int (0 : Int32))]))
    exact own_retI X0 hx Bd.notSynchronized Bd.returns (hb hby own_d_method_3_5) (by decide) (by decide) ⟨by simp [hc1], N0, e0⟩
  · refine own_Go.st (fun _ kt => XS.ifYes X0.here hx rfl (pc0 := 1) (pc' := 6) rfl (hb hby own_d_method_3_1) rfl ((if0 _ _).trans (feq hc1).2) (by decide) (by decide) kt) ?_
    show own_Go p e below _ (s₁.setTop (mkF m 6 #[.val (.int xh), .val (.int xg), .val (.int xa)] []))
    refine own_Go.st (fun _ kt => XS.iloadN X0.here hx rfl (hb hby own_d_method_3_6) rfl kt) ?_
    show own_Go p e below _ (s₁.setTop (mkF m 7 #[.val (.int xh), .val (.int xg), .val (.int xa)] [(.int xa)]))
    refine own_Go.st (fun _ kt => XS.iloadN X0.here hx rfl (hb hby own_d_method_3_7) rfl kt) ?_
    show own_Go p e below _ (s₁.setTop (mkF m 8 #[.val (.int xh), .val (.int xg), .val (.int xa)] [(.int xg), (.int xa)]))
    by_cases hc8 : xa = xg
    · refine own_Go.st (fun _ kt => XS.icmpNo X0.here hx rfl (hb hby own_d_method_3_8) rfl (teq hc8).2 kt) ?_
      show own_Go p e below _ (s₁.setTop (mkF m 11 #[.val (.int xh), .val (.int xg), .val (.int xa)] []))
      refine own_Go.st (fun _ kt => XS.iconst X0.here hx rfl (hb hby own_d_method_3_11) kt) ?_
      show own_Go p e below _ (s₁.setTop (mkF m 12 #[.val (.int xh), .val (.int xg), .val (.int xa)] [(.int (1 : Int32))]))
      refine own_Go.st (fun _ kt => XS.goto X0.here hx rfl (pc0 := 12) (pc' := 16) rfl (hb hby own_d_method_3_12) (by decide) (by decide) kt) ?_
      show own_Go p e below _ (s₁.setTop (mkF m 16 #[.val (.int xh), .val (.int xg), .val (.int xa)] [(.int (1 : Int32))]))
      exact own_retI X0 hx Bd.notSynchronized Bd.returns (hb hby own_d_method_3_16) (by decide) (by decide) ⟨by simp [hc1, hc8], N0, e0⟩
    · refine own_Go.st (fun _ kt => XS.icmpYes X0.here hx rfl (pc0 := 8) (pc' := 15) rfl (hb hby own_d_method_3_8) rfl (feq hc8).2 (by decide) (by decide) kt) ?_
      show own_Go p e below _ (s₁.setTop (mkF m 15 #[.val (.int xh), .val (.int xg), .val (.int xa)] []))
      refine own_Go.st (fun _ kt => XS.iconst X0.here hx rfl (hb hby own_d_method_3_15) kt) ?_
      show own_Go p e below _ (s₁.setTop (mkF m 16 #[.val (.int xh), .val (.int xg), .val (.int xa)] [(.int (2 : Int32))]))
      exact own_retI X0 hx Bd.notSynchronized Bd.returns (hb hby own_d_method_3_16) (by decide) (by decide) ⟨by simp [hc1, hc8], N0, e0⟩
theorem own_ef4 (m : MethodId) (x0 : Int64) (x1 : Int32) (x2 : Addr) (x3 : Int32) (x4 : Int32) (x5 : Addr) (x6 : Int32) : entryFrame m #[(.long x0), (.int x1), (.ref x2), (.int x3), (.int x4), (.ref x5), (.int x6)] 14 = mkF m 0 #[.val (.long x0), .second, .val (.int x1), .val (.ref x2), .val (.int x3), .val (.int x4), .val (.ref x5), .val (.int x6), .unset, .unset, .unset, .unset, .unset, .unset] [] := by first | (simp [entryFrame, mkF, argsToLocals, Value.category]; done) | rfl
theorem own_d_method_4_0 : decode method_4_code 0 = .ok (.lload_n 0, 1) := by decide +kernel
theorem own_d_method_4_1 : decode method_4_code 1 = .ok (.ldc2_w 51, 3) := by decide +kernel
theorem own_d_method_4_4 : decode method_4_code 4 = .ok (.lrem, 1) := by decide +kernel
theorem own_d_method_4_5 : decode method_4_code 5 = .ok (.l2i, 1) := by decide +kernel
theorem own_d_method_4_6 : decode method_4_code 6 = .ok (.istore 8, 2) := by decide +kernel
theorem own_d_method_4_8 : decode method_4_code 8 = .ok (.lload_n 0, 1) := by decide +kernel
theorem own_d_method_4_9 : decode method_4_code 9 = .ok (.bipush 16, 2) := by decide +kernel
theorem own_d_method_4_11 : decode method_4_code 11 = .ok (.lshr, 1) := by decide +kernel
theorem own_d_method_4_12 : decode method_4_code 12 = .ok (.ldc2_w 51, 3) := by decide +kernel
theorem own_d_method_4_15 : decode method_4_code 15 = .ok (.lrem, 1) := by decide +kernel
theorem own_d_method_4_16 : decode method_4_code 16 = .ok (.l2i, 1) := by decide +kernel
theorem own_d_method_4_17 : decode method_4_code 17 = .ok (.istore 9, 2) := by decide +kernel
theorem own_d_method_4_19 : decode method_4_code 19 = .ok (.iload 8, 2) := by decide +kernel
theorem own_d_method_4_21 : decode method_4_code 21 = .ok (.iload 9, 2) := by decide +kernel
theorem own_d_method_4_23 : decode method_4_code 23 = .ok (.invokestatic 53, 3) := by decide +kernel
theorem own_pd0 : parseMethodDescriptor "(II)I" = some ⟨[.int, .int], some .int⟩ := by decide +kernel
theorem own_d_method_4_26 : decode method_4_code 26 = .ok (.istore 10, 2) := by decide +kernel
theorem own_d_method_4_28 : decode method_4_code 28 = .ok (.iload 8, 2) := by decide +kernel
theorem own_d_method_4_30 : decode method_4_code 30 = .ok (.iload 9, 2) := by decide +kernel
theorem own_d_method_4_32 : decode method_4_code 32 = .ok (.invokestatic 59, 3) := by decide +kernel
theorem own_d_method_4_35 : decode method_4_code 35 = .ok (.istore 11, 2) := by decide +kernel
theorem own_d_method_4_37 : decode method_4_code 37 = .ok (.lload_n 0, 1) := by decide +kernel
theorem own_d_method_4_38 : decode method_4_code 38 = .ok (.bipush 48, 2) := by decide +kernel
theorem own_d_method_4_40 : decode method_4_code 40 = .ok (.lushr, 1) := by decide +kernel
theorem own_d_method_4_41 : decode method_4_code 41 = .ok (.ldc2_w 62, 3) := by decide +kernel
theorem own_d_method_4_44 : decode method_4_code 44 = .ok (.land, 1) := by decide +kernel
theorem own_d_method_4_45 : decode method_4_code 45 = .ok (.l2i, 1) := by decide +kernel
theorem own_d_method_4_46 : decode method_4_code 46 = .ok (.istore 12, 2) := by decide +kernel
theorem own_d_method_4_48 : decode method_4_code 48 = .ok (.iload_n 2, 1) := by decide +kernel
theorem own_d_method_4_49 : decode method_4_code 49 = .ok (.ifCond .ne 40, 3) := by decide +kernel
theorem own_d_method_4_52 : decode method_4_code 52 = .ok (.aload_n 3, 1) := by decide +kernel
theorem own_d_method_4_53 : decode method_4_code 53 = .ok (.iload 4, 2) := by decide +kernel
theorem own_d_method_4_55 : decode method_4_code 55 = .ok (.iload 10, 2) := by decide +kernel
theorem own_d_method_4_57 : decode method_4_code 57 = .ok (.i2d, 1) := by decide +kernel
theorem own_d_method_4_58 : decode method_4_code 58 = .ok (.dastore, 1) := by decide +kernel
theorem own_d_method_4_59 : decode method_4_code 59 = .ok (.aload_n 3, 1) := by decide +kernel
theorem own_d_method_4_60 : decode method_4_code 60 = .ok (.iload 5, 2) := by decide +kernel
theorem own_d_method_4_62 : decode method_4_code 62 = .ok (.iload 11, 2) := by decide +kernel
theorem own_d_method_4_64 : decode method_4_code 64 = .ok (.i2d, 1) := by decide +kernel
theorem own_d_method_4_65 : decode method_4_code 65 = .ok (.dastore, 1) := by decide +kernel
theorem own_d_method_4_66 : decode method_4_code 66 = .ok (.aload 6, 2) := by decide +kernel
theorem own_d_method_4_68 : decode method_4_code 68 = .ok (.iload 7, 2) := by decide +kernel
theorem own_d_method_4_70 : decode method_4_code 70 = .ok (.iload 12, 2) := by decide +kernel
theorem own_d_method_4_72 : decode method_4_code 72 = .ok (.i2d, 1) := by decide +kernel
theorem own_d_method_4_73 : decode method_4_code 73 = .ok (.ldc2_w 45, 3) := by decide +kernel
theorem own_d_method_4_76 : decode method_4_code 76 = .ok (.ddiv, 1) := by decide +kernel
theorem own_d_method_4_77 : decode method_4_code 77 = .ok (.dastore, 1) := by decide +kernel
theorem own_d_method_4_78 : decode method_4_code 78 = .ok (.iload 11, 2) := by decide +kernel
theorem own_d_method_4_80 : decode method_4_code 80 = .ok (.iload 10, 2) := by decide +kernel
theorem own_d_method_4_82 : decode method_4_code 82 = .ok (.isub, 1) := by decide +kernel
theorem own_d_method_4_83 : decode method_4_code 83 = .ok (.i2l, 1) := by decide +kernel
theorem own_d_method_4_84 : decode method_4_code 84 = .ok (.iload 12, 2) := by decide +kernel
theorem own_d_method_4_86 : decode method_4_code 86 = .ok (.i2l, 1) := by decide +kernel
theorem own_d_method_4_87 : decode method_4_code 87 = .ok (.ladd, 1) := by decide +kernel
theorem own_d_method_4_88 : decode method_4_code 88 = .ok (.lreturn, 1) := by decide +kernel
theorem own_d_method_4_89 : decode method_4_code 89 = .ok (.iload_n 2, 1) := by decide +kernel
theorem own_d_method_4_90 : decode method_4_code 90 = .ok (.iconst 1, 1) := by decide +kernel
theorem own_d_method_4_91 : decode method_4_code 91 = .ok (.if_icmp .ne 48, 3) := by decide +kernel
theorem own_d_method_4_94 : decode method_4_code 94 = .ok (.aload_n 3, 1) := by decide +kernel
theorem own_d_method_4_95 : decode method_4_code 95 = .ok (.iload 4, 2) := by decide +kernel
theorem own_d_method_4_97 : decode method_4_code 97 = .ok (.iload 10, 2) := by decide +kernel
theorem own_d_method_4_99 : decode method_4_code 99 = .ok (.i2d, 1) := by decide +kernel
theorem own_d_method_4_100 : decode method_4_code 100 = .ok (.ldc2_w 64, 3) := by decide +kernel
theorem own_d_method_4_103 : decode method_4_code 103 = .ok (.dmul, 1) := by decide +kernel
theorem own_d_method_4_104 : decode method_4_code 104 = .ok (.dastore, 1) := by decide +kernel
theorem own_d_method_4_105 : decode method_4_code 105 = .ok (.aload_n 3, 1) := by decide +kernel
theorem own_d_method_4_106 : decode method_4_code 106 = .ok (.iload 5, 2) := by decide +kernel
theorem own_d_method_4_108 : decode method_4_code 108 = .ok (.iload 11, 2) := by decide +kernel
theorem own_d_method_4_110 : decode method_4_code 110 = .ok (.i2d, 1) := by decide +kernel
theorem own_d_method_4_111 : decode method_4_code 111 = .ok (.ldc2_w 64, 3) := by decide +kernel
theorem own_d_method_4_114 : decode method_4_code 114 = .ok (.dmul, 1) := by decide +kernel
theorem own_d_method_4_115 : decode method_4_code 115 = .ok (.dastore, 1) := by decide +kernel
theorem own_d_method_4_116 : decode method_4_code 116 = .ok (.aload 6, 2) := by decide +kernel
theorem own_d_method_4_118 : decode method_4_code 118 = .ok (.iload 7, 2) := by decide +kernel
theorem own_d_method_4_120 : decode method_4_code 120 = .ok (.iload 12, 2) := by decide +kernel
theorem own_d_method_4_122 : decode method_4_code 122 = .ok (.i2d, 1) := by decide +kernel
theorem own_d_method_4_123 : decode method_4_code 123 = .ok (.ldc2_w 43, 3) := by decide +kernel
theorem own_d_method_4_126 : decode method_4_code 126 = .ok (.dmul, 1) := by decide +kernel
theorem own_d_method_4_127 : decode method_4_code 127 = .ok (.dastore, 1) := by decide +kernel
theorem own_d_method_4_128 : decode method_4_code 128 = .ok (.iload 11, 2) := by decide +kernel
theorem own_d_method_4_130 : decode method_4_code 130 = .ok (.iload 10, 2) := by decide +kernel
theorem own_d_method_4_132 : decode method_4_code 132 = .ok (.isub, 1) := by decide +kernel
theorem own_d_method_4_133 : decode method_4_code 133 = .ok (.i2l, 1) := by decide +kernel
theorem own_d_method_4_134 : decode method_4_code 134 = .ok (.iload 12, 2) := by decide +kernel
theorem own_d_method_4_136 : decode method_4_code 136 = .ok (.i2l, 1) := by decide +kernel
theorem own_d_method_4_137 : decode method_4_code 137 = .ok (.ladd, 1) := by decide +kernel
theorem own_d_method_4_138 : decode method_4_code 138 = .ok (.lreturn, 1) := by decide +kernel
theorem own_d_method_4_139 : decode method_4_code 139 = .ok (.iload 12, 2) := by decide +kernel
theorem own_d_method_4_141 : decode method_4_code 141 = .ok (.iconst 3, 1) := by decide +kernel
theorem own_d_method_4_142 : decode method_4_code 142 = .ok (.iand, 1) := by decide +kernel
theorem own_d_method_4_143 : decode method_4_code 143 = .ok (.istore 13, 2) := by decide +kernel
theorem own_d_method_4_145 : decode method_4_code 145 = .ok (.aload_n 3, 1) := by decide +kernel
theorem own_d_method_4_146 : decode method_4_code 146 = .ok (.iload 4, 2) := by decide +kernel
theorem own_d_method_4_148 : decode method_4_code 148 = .ok (.iload 8, 2) := by decide +kernel
theorem own_d_method_4_150 : decode method_4_code 150 = .ok (.i2d, 1) := by decide +kernel
theorem own_d_method_4_151 : decode method_4_code 151 = .ok (.dastore, 1) := by decide +kernel
theorem own_d_method_4_152 : decode method_4_code 152 = .ok (.aload_n 3, 1) := by decide +kernel
theorem own_d_method_4_153 : decode method_4_code 153 = .ok (.iload 5, 2) := by decide +kernel
theorem own_d_method_4_155 : decode method_4_code 155 = .ok (.iload 8, 2) := by decide +kernel
theorem own_d_method_4_157 : decode method_4_code 157 = .ok (.iload 13, 2) := by decide +kernel
theorem own_d_method_4_159 : decode method_4_code 159 = .ok (.iadd, 1) := by decide +kernel
theorem own_d_method_4_160 : decode method_4_code 160 = .ok (.i2d, 1) := by decide +kernel
theorem own_d_method_4_161 : decode method_4_code 161 = .ok (.dastore, 1) := by decide +kernel
theorem own_d_method_4_162 : decode method_4_code 162 = .ok (.aload 6, 2) := by decide +kernel
theorem own_d_method_4_164 : decode method_4_code 164 = .ok (.iload 7, 2) := by decide +kernel
theorem own_d_method_4_166 : decode method_4_code 166 = .ok (.iconst 4, 1) := by decide +kernel
theorem own_d_method_4_167 : decode method_4_code 167 = .ok (.iload 13, 2) := by decide +kernel
theorem own_d_method_4_169 : decode method_4_code 169 = .ok (.isub, 1) := by decide +kernel
theorem own_d_method_4_170 : decode method_4_code 170 = .ok (.i2d, 1) := by decide +kernel
theorem own_d_method_4_171 : decode method_4_code 171 = .ok (.ldc2_w 45, 3) := by decide +kernel
theorem own_d_method_4_174 : decode method_4_code 174 = .ok (.ddiv, 1) := by decide +kernel
theorem own_d_method_4_175 : decode method_4_code 175 = .ok (.dastore, 1) := by decide +kernel
theorem own_d_method_4_176 : decode method_4_code 176 = .ok (.lconst 1, 1) := by decide +kernel
theorem own_d_method_4_177 : decode method_4_code 177 = .ok (.lreturn, 1) := by decide +kernel
def own_Q_own_fill (Z : State) (xa : Int64) (xm : Int32) (rb : Addr) (xlo xhi : Int32) (rw : Addr) (xax : Int32) (il ih ix D : Nat) (fb fw : Nat → Value) (h0 : Heap) (n0 : Nat) (v : Option Value) (h : Heap) (L : List Loc) : Prop := ∃ (n : Int64) (x y z : UInt64) (N : Int), v = some (.long n) ∧ Fr n0 L ∧ own_ext x y z N (own_EX xm) ∧ (xm = 2 → N = 4 ∧ n = 1) ∧ (xm ≠ 2 → n.toInt = N) ∧ own_Ar Z h rb .double 10 (fun j => if j = ih then .double y else if j = il then .double x else fb j) ∧ own_Ar Z h rw .double D (fun j => if j = ix then .double z else fw j) ∧ Keep h0 h [rb, rw]
set_option maxRecDepth 65536 in
set_option maxHeartbeats 40000000 in
theorem own_fill (l : Launch) (Z : State) (a0 : Array Value) (hw : ∀ d ∈ tables_1, d.before a0 Z = true) (ws : List Jvm.Cond) (xa : Int64) (xm : Int32) (rb : Addr) (xlo xhi : Int32) (rw : Addr) (xax : Int32) (il ih ix D : Nat) (fb fw : Nat → Value) (h0 : Heap) (n0 : Nat) (Z0 : n0 ≤ h0.size) (ab : own_Ar Z h0 rb .double 10 fb) (aw : own_Ar Z h0 rw .double D fw) (hne : rb ≠ rw) (gb : n0 ≤ rb) (gw : n0 ≤ rw) (hil : xlo.toInt = (il : Int)) (hih : xhi.toInt = (ih : Int)) (hix : xax.toInt = (ix : Int)) (li : il < 10) (lh : ih < 10) (lx : ix < D) (hm : xm = 0 ∨ xm = 1 ∨ xm = 2) :
    MetFree l (⟨"com/example/thicket/thicket/PackedLevelGrownVolumePinLaw", "fill", "(JI[DII[DI)J"⟩ : MethodName) (head1 (Jvm.Cond.code (⟨"com/example/thicket/thicket/PackedLevelGrownVolumePinLaw", "fill", "(JI[DII[DI)J"⟩ : MethodName) method_4_code 14 (some .long) :: ws) ({ frames := 1, cells := 0, slots := 0, locals := 13 } : Room)) (fun av_ U => av_ = #[(.long xa), (.int xm), (.ref rb), (.int xlo), (.int xhi), (.ref rw), (.int xax)] ∧ Z.Warmed39 U.vm ∧ U.heap = h0) (fun _ _ _ _ _ => True) (fun _ U o U' => ∃ v L, o = .returned v ∧ own_Q_own_fill Z xa xm rb xlo xhi rw xax il ih ix D fb fw h0 n0 v U'.heap L ∧ FrameEnd U o U' L ({ frames := 1, cells := 0, slots := 0, locals := 13 } : Room).cells ({ frames := 1, cells := 0, slots := 0, locals := 13 } : Room).slots) := by
  refine MetFree.of_bodySF (plainFor_of_name own_pn0) hisR ?_
  intro p e s m args below meth c s₁ Bd hml0 hP hK
  obtain ⟨rfl, hZ, hh⟩ := hP
  have hx := Bd.exec
  have hby := Bd.bytes
  have hml : c.maxLocals = 14 := hml0
  have hown : s.vm.findClass "com/example/thicket/thicket/PackedLevelGrownVolumePinLaw" = some m.cls := findClass_of_methodNamed Bd.named
  have hnm := (name_of_methodNamed Bd.named Bd.method).1
  have X0 : Stand p l e ({ frames := 1, cells := 0, slots := 0, locals := 13 } : Room) s m #[(.long xa), (.int xm), (.ref rb), (.int xlo), (.int xhi), (.ref rw), (.int xax)] below meth c s₁ [] 0 0 := Stand.of_body Bd
  have e0 : s₁.heap = h0 := by rw [← hh, Bd.state]; rfl
  have N0 := Fr.nil n0
  suffices hgo : own_Go p e below (fun o U' => ∃ v L, o = .returned v ∧ own_Q_own_fill Z xa xm rb xlo xhi rw xax il ih ix D fb fw h0 n0 v U'.heap L ∧ FrameEnd s o U' L ({ frames := 1, cells := 0, slots := 0, locals := 13 } : Room).cells ({ frames := 1, cells := 0, slots := 0, locals := 13 } : Room).slots) (s₁.setTop (mkF m 0 #[.val (.long xa), .second, .val (.int xm), .val (.ref rb), .val (.int xlo), .val (.int xhi), .val (.ref rw), .val (.int xax), .unset, .unset, .unset, .unset, .unset, .unset] [])) by
    obtain ⟨s₂, o, h1, h2, h3, h4⟩ := hgo
    exact ⟨s₂, o, castTop (own_ef4 m xa xm rb xlo xhi rw xax) h1, h2, h3, h4⟩
  have kk0 : Keep h0 h0 [rb, rw] := Keep.refl _ _
  show own_Go p e below _ (s₁.setTop (mkF m 0 #[.val (.long xa), .second, .val (.int xm), .val (.ref rb), .val (.int xlo), .val (.int xhi), .val (.ref rw), .val (.int xax), .unset, .unset, .unset, .unset, .unset, .unset] []))
  refine own_Go.st (fun _ kt => XS.lloadN X0.here hx rfl (hb hby own_d_method_4_0) rfl kt) ?_
  show own_Go p e below _ (s₁.setTop (mkF m 1 #[.val (.long xa), .second, .val (.int xm), .val (.ref rb), .val (.int xlo), .val (.int xhi), .val (.ref rw), .val (.int xax), .unset, .unset, .unset, .unset, .unset, .unset] [(.long xa)]))
  refine own_Go.st (fun _ kt => X0.ldc2J hx hown (mvT hZ (hw _ (List.mem_of_getElem? (i := 18) rfl))) rfl (hb hby own_d_method_4_1) kt) ?_
  show own_Go p e below _ (s₁.setTop (mkF m 4 #[.val (.long xa), .second, .val (.int xm), .val (.ref rb), .val (.int xlo), .val (.int xhi), .val (.ref rw), .val (.int xax), .unset, .unset, .unset, .unset, .unset, .unset] [(.long (32768 : Int64)), (.long xa)]))
  refine own_Go.st (fun _ kt => XS.lrem X0.here hx rfl (hb hby own_d_method_4_4) rfl (by decide) kt) ?_
  show own_Go p e below _ (s₁.setTop (mkF m 5 #[.val (.long xa), .second, .val (.int xm), .val (.ref rb), .val (.int xlo), .val (.int xhi), .val (.ref rw), .val (.int xax), .unset, .unset, .unset, .unset, .unset, .unset] [(.long (xa - (xa / (32768 : Int64)) * (32768 : Int64)))]))
  refine own_Go.st (fun _ kt => XS.l2i X0.here hx rfl (hb hby own_d_method_4_5) rfl kt) ?_
  show own_Go p e below _ (s₁.setTop (mkF m 6 #[.val (.long xa), .second, .val (.int xm), .val (.ref rb), .val (.int xlo), .val (.int xhi), .val (.ref rw), .val (.int xax), .unset, .unset, .unset, .unset, .unset, .unset] [(.int ((xa - (xa / (32768 : Int64)) * (32768 : Int64)).toInt32))]))
  have bx := own_rem xa
  generalize ((xa - (xa / (32768 : Int64)) * (32768 : Int64)).toInt32) = xx at bx ⊢
  show own_Go p e below _ (s₁.setTop (mkF m 6 #[.val (.long xa), .second, .val (.int xm), .val (.ref rb), .val (.int xlo), .val (.int xhi), .val (.ref rw), .val (.int xax), .unset, .unset, .unset, .unset, .unset, .unset] [(.int xx)]))
  refine own_Go.st (fun _ kt => XS.istore X0.here hx rfl (hb hby own_d_method_4_6) rfl (l' := #[.val (.long xa), .second, .val (.int xm), .val (.ref rb), .val (.int xlo), .val (.int xhi), .val (.ref rw), .val (.int xax), .val (.int xx), .unset, .unset, .unset, .unset, .unset]) rfl kt) ?_
  show own_Go p e below _ (s₁.setTop (mkF m 8 #[.val (.long xa), .second, .val (.int xm), .val (.ref rb), .val (.int xlo), .val (.int xhi), .val (.ref rw), .val (.int xax), .val (.int xx), .unset, .unset, .unset, .unset, .unset] []))
  refine own_Go.st (fun _ kt => XS.lloadN X0.here hx rfl (hb hby own_d_method_4_8) rfl kt) ?_
  show own_Go p e below _ (s₁.setTop (mkF m 9 #[.val (.long xa), .second, .val (.int xm), .val (.ref rb), .val (.int xlo), .val (.int xhi), .val (.ref rw), .val (.int xax), .val (.int xx), .unset, .unset, .unset, .unset, .unset] [(.long xa)]))
  refine own_Go.st (fun _ kt => XS.bipush X0.here hx rfl (hb hby own_d_method_4_9) kt) ?_
  show own_Go p e below _ (s₁.setTop (mkF m 11 #[.val (.long xa), .second, .val (.int xm), .val (.ref rb), .val (.int xlo), .val (.int xhi), .val (.ref rw), .val (.int xax), .val (.int xx), .unset, .unset, .unset, .unset, .unset] [(.int (16 : Int32)), (.long xa)]))
  refine own_Go.st (fun _ kt => XS.lshr X0.here hx rfl (hb hby own_d_method_4_11) rfl kt) ?_
  show own_Go p e below _ (s₁.setTop (mkF m 12 #[.val (.long xa), .second, .val (.int xm), .val (.ref rb), .val (.int xlo), .val (.int xhi), .val (.ref rw), .val (.int xax), .val (.int xx), .unset, .unset, .unset, .unset, .unset] [(.long (xa >>> ((16 : Int32) &&& 0x3f).toInt64))]))
  refine own_Go.st (fun _ kt => X0.ldc2J hx hown (mvT hZ (hw _ (List.mem_of_getElem? (i := 18) rfl))) rfl (hb hby own_d_method_4_12) kt) ?_
  show own_Go p e below _ (s₁.setTop (mkF m 15 #[.val (.long xa), .second, .val (.int xm), .val (.ref rb), .val (.int xlo), .val (.int xhi), .val (.ref rw), .val (.int xax), .val (.int xx), .unset, .unset, .unset, .unset, .unset] [(.long (32768 : Int64)), (.long (xa >>> ((16 : Int32) &&& 0x3f).toInt64))]))
  refine own_Go.st (fun _ kt => XS.lrem X0.here hx rfl (hb hby own_d_method_4_15) rfl (by decide) kt) ?_
  show own_Go p e below _ (s₁.setTop (mkF m 16 #[.val (.long xa), .second, .val (.int xm), .val (.ref rb), .val (.int xlo), .val (.int xhi), .val (.ref rw), .val (.int xax), .val (.int xx), .unset, .unset, .unset, .unset, .unset] [(.long ((xa >>> ((16 : Int32) &&& 0x3f).toInt64) - ((xa >>> ((16 : Int32) &&& 0x3f).toInt64) / (32768 : Int64)) * (32768 : Int64)))]))
  refine own_Go.st (fun _ kt => XS.l2i X0.here hx rfl (hb hby own_d_method_4_16) rfl kt) ?_
  show own_Go p e below _ (s₁.setTop (mkF m 17 #[.val (.long xa), .second, .val (.int xm), .val (.ref rb), .val (.int xlo), .val (.int xhi), .val (.ref rw), .val (.int xax), .val (.int xx), .unset, .unset, .unset, .unset, .unset] [(.int (((xa >>> ((16 : Int32) &&& 0x3f).toInt64) - ((xa >>> ((16 : Int32) &&& 0x3f).toInt64) / (32768 : Int64)) * (32768 : Int64)).toInt32))]))
  have by_ := own_rem (xa >>> ((16 : Int32) &&& 0x3f).toInt64)
  generalize (((xa >>> ((16 : Int32) &&& 0x3f).toInt64) - ((xa >>> ((16 : Int32) &&& 0x3f).toInt64) / (32768 : Int64)) * (32768 : Int64)).toInt32) = xy at by_ ⊢
  show own_Go p e below _ (s₁.setTop (mkF m 17 #[.val (.long xa), .second, .val (.int xm), .val (.ref rb), .val (.int xlo), .val (.int xhi), .val (.ref rw), .val (.int xax), .val (.int xx), .unset, .unset, .unset, .unset, .unset] [(.int xy)]))
  refine own_Go.st (fun _ kt => XS.istore X0.here hx rfl (hb hby own_d_method_4_17) rfl (l' := #[.val (.long xa), .second, .val (.int xm), .val (.ref rb), .val (.int xlo), .val (.int xhi), .val (.ref rw), .val (.int xax), .val (.int xx), .val (.int xy), .unset, .unset, .unset, .unset]) rfl kt) ?_
  show own_Go p e below _ (s₁.setTop (mkF m 19 #[.val (.long xa), .second, .val (.int xm), .val (.ref rb), .val (.int xlo), .val (.int xhi), .val (.ref rw), .val (.int xax), .val (.int xx), .val (.int xy), .unset, .unset, .unset, .unset] []))
  refine own_Go.st (fun _ kt => XS.iload X0.here hx rfl (hb hby own_d_method_4_19) rfl kt) ?_
  show own_Go p e below _ (s₁.setTop (mkF m 21 #[.val (.long xa), .second, .val (.int xm), .val (.ref rb), .val (.int xlo), .val (.int xhi), .val (.ref rw), .val (.int xax), .val (.int xx), .val (.int xy), .unset, .unset, .unset, .unset] [(.int xx)]))
  refine own_Go.st (fun _ kt => XS.iload X0.here hx rfl (hb hby own_d_method_4_21) rfl kt) ?_
  show own_Go p e below _ (s₁.setTop (mkF m 23 #[.val (.long xa), .second, .val (.int xm), .val (.ref rb), .val (.int xlo), .val (.int xhi), .val (.ref rw), .val (.int xax), .val (.int xx), .val (.int xy), .unset, .unset, .unset, .unset] [(.int xy), (.int xx)]))
  obtain ⟨_, _, ⟨T1, L1, k1, n1⟩, -, X1, ⟨Lc1, hQ1, l1, y1, z1⟩, st1⟩ := Jvm.LawKit.callS X0 hx (y := (⟨"java/lang/Math", "min", "(II)I"⟩ : MethodName)) hown (mvT hZ (hw _ (List.mem_of_getElem? (i := 19) rfl))) (mvT hZ (hw _ (List.mem_of_getElem? (i := 20) rfl))) (mvT hZ (hw _ (List.mem_of_getElem? (i := 21) rfl))) (mvT hZ (hw _ (List.mem_of_getElem? (i := 22) rfl))) (by decide) (backOf (W := 0) (own_min l Z a0 hw [] xx xy h0 n0 Z0 ) hZ (hw _ (List.mem_of_getElem? (i := 22) rfl)) (hw _ (List.mem_of_getElem? (i := 21) rfl)) (by decide) (by decide)) (g := (mkF m 23 #[.val (.long xa), .second, .val (.int xm), .val (.ref rb), .val (.int xlo), .val (.int xhi), .val (.ref rw), .val (.int xax), .val (.int xx), .val (.int xy), .unset, .unset, .unset, .unset] [(.int xy), (.int xx)])) rfl (by rw [hml]; rfl) (argsL := [(.int xx), (.int xy)]) (rest := []) (lenOf own_pd0 rfl) rfl (by show 2 * 0 + _ ≤ _; exact Nat.le_of_eq rfl) (hb hby own_d_method_4_23) (fun _ _ => ⟨rfl, e0, (by decide : 0 + 0 ≤ _), (by decide : 0 + 0 ≤ _)⟩)
  dsimp only [Pt.U, Pt.locs, Pt.cells, Pt.slots] at X1 l1 y1 z1 st1 hQ1
  subst l1 y1 z1
  obtain ⟨rfl, N1q, hh1⟩ := hQ1
  have N1 := Fr.app N0 N1q
  refine own_Go.st (fun _ kt => st1 _ kt) ?_
  show own_Go p e below _ (T1.setTop (mkF m 26 #[.val (.long xa), .second, .val (.int xm), .val (.ref rb), .val (.int xlo), .val (.int xhi), .val (.ref rw), .val (.int xax), .val (.int xx), .val (.int xy), .unset, .unset, .unset, .unset] [(.int (if xy < xx then xy else xx))]))
  refine own_Go.st (fun _ kt => XS.istore X1.here hx rfl (hb hby own_d_method_4_26) rfl (l' := #[.val (.long xa), .second, .val (.int xm), .val (.ref rb), .val (.int xlo), .val (.int xhi), .val (.ref rw), .val (.int xax), .val (.int xx), .val (.int xy), .val (.int (if xy < xx then xy else xx)), .unset, .unset, .unset]) rfl kt) ?_
  show own_Go p e below _ (T1.setTop (mkF m 28 #[.val (.long xa), .second, .val (.int xm), .val (.ref rb), .val (.int xlo), .val (.int xhi), .val (.ref rw), .val (.int xax), .val (.int xx), .val (.int xy), .val (.int (if xy < xx then xy else xx)), .unset, .unset, .unset] []))
  refine own_Go.st (fun _ kt => XS.iload X1.here hx rfl (hb hby own_d_method_4_28) rfl kt) ?_
  show own_Go p e below _ (T1.setTop (mkF m 30 #[.val (.long xa), .second, .val (.int xm), .val (.ref rb), .val (.int xlo), .val (.int xhi), .val (.ref rw), .val (.int xax), .val (.int xx), .val (.int xy), .val (.int (if xy < xx then xy else xx)), .unset, .unset, .unset] [(.int xx)]))
  refine own_Go.st (fun _ kt => XS.iload X1.here hx rfl (hb hby own_d_method_4_30) rfl kt) ?_
  show own_Go p e below _ (T1.setTop (mkF m 32 #[.val (.long xa), .second, .val (.int xm), .val (.ref rb), .val (.int xlo), .val (.int xhi), .val (.ref rw), .val (.int xax), .val (.int xx), .val (.int xy), .val (.int (if xy < xx then xy else xx)), .unset, .unset, .unset] [(.int xy), (.int xx)]))
  obtain ⟨_, _, ⟨T2, L2, k2, n2⟩, -, X2, ⟨Lc2, hQ2, l2, y2, z2⟩, st2⟩ := Jvm.LawKit.callS X1 hx (y := (⟨"java/lang/Math", "max", "(II)I"⟩ : MethodName)) hown (mvT hZ (hw _ (List.mem_of_getElem? (i := 23) rfl))) (mvT hZ (hw _ (List.mem_of_getElem? (i := 24) rfl))) (mvT hZ (hw _ (List.mem_of_getElem? (i := 21) rfl))) (mvT hZ (hw _ (List.mem_of_getElem? (i := 25) rfl))) (by decide) (backOf (W := 0) (own_max l Z a0 hw [] xx xy h0 n0 Z0 ) hZ (hw _ (List.mem_of_getElem? (i := 25) rfl)) (hw _ (List.mem_of_getElem? (i := 21) rfl)) (by decide) (by decide)) (g := (mkF m 32 #[.val (.long xa), .second, .val (.int xm), .val (.ref rb), .val (.int xlo), .val (.int xhi), .val (.ref rw), .val (.int xax), .val (.int xx), .val (.int xy), .val (.int (if xy < xx then xy else xx)), .unset, .unset, .unset] [(.int xy), (.int xx)])) rfl (by rw [hml]; rfl) (argsL := [(.int xx), (.int xy)]) (rest := []) (lenOf own_pd0 rfl) rfl (by show 2 * 0 + _ ≤ _; exact Nat.le_of_eq rfl) (hb hby own_d_method_4_32) (fun _ _ => ⟨rfl, hh1, (by decide : 0 + 0 ≤ _), (by decide : 0 + 0 ≤ _)⟩)
  dsimp only [Pt.U, Pt.locs, Pt.cells, Pt.slots] at X2 l2 y2 z2 st2 hQ2
  subst l2 y2 z2
  obtain ⟨rfl, N2q, hh2⟩ := hQ2
  have N2 := Fr.app N1 N2q
  refine own_Go.st (fun _ kt => st2 _ kt) ?_
  show own_Go p e below _ (T2.setTop (mkF m 35 #[.val (.long xa), .second, .val (.int xm), .val (.ref rb), .val (.int xlo), .val (.int xhi), .val (.ref rw), .val (.int xax), .val (.int xx), .val (.int xy), .val (.int (if xy < xx then xy else xx)), .unset, .unset, .unset] [(.int (if xx < xy then xy else xx))]))
  refine own_Go.st (fun _ kt => XS.istore X2.here hx rfl (hb hby own_d_method_4_35) rfl (l' := #[.val (.long xa), .second, .val (.int xm), .val (.ref rb), .val (.int xlo), .val (.int xhi), .val (.ref rw), .val (.int xax), .val (.int xx), .val (.int xy), .val (.int (if xy < xx then xy else xx)), .val (.int (if xx < xy then xy else xx)), .unset, .unset]) rfl kt) ?_
  show own_Go p e below _ (T2.setTop (mkF m 37 #[.val (.long xa), .second, .val (.int xm), .val (.ref rb), .val (.int xlo), .val (.int xhi), .val (.ref rw), .val (.int xax), .val (.int xx), .val (.int xy), .val (.int (if xy < xx then xy else xx)), .val (.int (if xx < xy then xy else xx)), .unset, .unset] []))
  have bm := own_mm xx xy bx by_
  generalize (if xy < xx then xy else xx) = xl at bm ⊢
  generalize (if xx < xy then xy else xx) = xh at bm ⊢
  show own_Go p e below _ (T2.setTop (mkF m 37 #[.val (.long xa), .second, .val (.int xm), .val (.ref rb), .val (.int xlo), .val (.int xhi), .val (.ref rw), .val (.int xax), .val (.int xx), .val (.int xy), .val (.int xl), .val (.int xh), .unset, .unset] []))
  refine own_Go.st (fun _ kt => XS.lloadN X2.here hx rfl (hb hby own_d_method_4_37) rfl kt) ?_
  show own_Go p e below _ (T2.setTop (mkF m 38 #[.val (.long xa), .second, .val (.int xm), .val (.ref rb), .val (.int xlo), .val (.int xhi), .val (.ref rw), .val (.int xax), .val (.int xx), .val (.int xy), .val (.int xl), .val (.int xh), .unset, .unset] [(.long xa)]))
  refine own_Go.st (fun _ kt => XS.bipush X2.here hx rfl (hb hby own_d_method_4_38) kt) ?_
  show own_Go p e below _ (T2.setTop (mkF m 40 #[.val (.long xa), .second, .val (.int xm), .val (.ref rb), .val (.int xlo), .val (.int xhi), .val (.ref rw), .val (.int xax), .val (.int xx), .val (.int xy), .val (.int xl), .val (.int xh), .unset, .unset] [(.int (48 : Int32)), (.long xa)]))
  refine own_Go.st (fun _ kt => XS.lushr X2.here hx rfl (hb hby own_d_method_4_40) rfl kt) ?_
  show own_Go p e below _ (T2.setTop (mkF m 41 #[.val (.long xa), .second, .val (.int xm), .val (.ref rb), .val (.int xlo), .val (.int xhi), .val (.ref rw), .val (.int xax), .val (.int xx), .val (.int xy), .val (.int xl), .val (.int xh), .unset, .unset] [(.long ((xa.toUInt64 >>> ((48 : Int32) &&& 0x3f).toInt64.toUInt64).toInt64))]))
  refine own_Go.st (fun _ kt => X2.ldc2J hx hown (mvT hZ (hw _ (List.mem_of_getElem? (i := 26) rfl))) rfl (hb hby own_d_method_4_41) kt) ?_
  show own_Go p e below _ (T2.setTop (mkF m 44 #[.val (.long xa), .second, .val (.int xm), .val (.ref rb), .val (.int xlo), .val (.int xhi), .val (.ref rw), .val (.int xax), .val (.int xx), .val (.int xy), .val (.int xl), .val (.int xh), .unset, .unset] [(.long (65535 : Int64)), (.long ((xa.toUInt64 >>> ((48 : Int32) &&& 0x3f).toInt64.toUInt64).toInt64))]))
  refine own_Go.st (fun _ kt => XS.land X2.here hx rfl (hb hby own_d_method_4_44) rfl kt) ?_
  show own_Go p e below _ (T2.setTop (mkF m 45 #[.val (.long xa), .second, .val (.int xm), .val (.ref rb), .val (.int xlo), .val (.int xhi), .val (.ref rw), .val (.int xax), .val (.int xx), .val (.int xy), .val (.int xl), .val (.int xh), .unset, .unset] [(.long (((xa.toUInt64 >>> ((48 : Int32) &&& 0x3f).toInt64.toUInt64).toInt64) &&& (65535 : Int64)))]))
  refine own_Go.st (fun _ kt => XS.l2i X2.here hx rfl (hb hby own_d_method_4_45) rfl kt) ?_
  show own_Go p e below _ (T2.setTop (mkF m 46 #[.val (.long xa), .second, .val (.int xm), .val (.ref rb), .val (.int xlo), .val (.int xhi), .val (.ref rw), .val (.int xax), .val (.int xx), .val (.int xy), .val (.int xl), .val (.int xh), .unset, .unset] [(.int ((((xa.toUInt64 >>> ((48 : Int32) &&& 0x3f).toInt64.toUInt64).toInt64) &&& (65535 : Int64)).toInt32))]))
  have bk := own_mask16 ((xa.toUInt64 >>> ((48 : Int32) &&& 0x3f).toInt64.toUInt64).toInt64)
  generalize ((((xa.toUInt64 >>> ((48 : Int32) &&& 0x3f).toInt64.toUInt64).toInt64) &&& (65535 : Int64)).toInt32) = xk at bk ⊢
  show own_Go p e below _ (T2.setTop (mkF m 46 #[.val (.long xa), .second, .val (.int xm), .val (.ref rb), .val (.int xlo), .val (.int xhi), .val (.ref rw), .val (.int xax), .val (.int xx), .val (.int xy), .val (.int xl), .val (.int xh), .unset, .unset] [(.int xk)]))
  refine own_Go.st (fun _ kt => XS.istore X2.here hx rfl (hb hby own_d_method_4_46) rfl (l' := #[.val (.long xa), .second, .val (.int xm), .val (.ref rb), .val (.int xlo), .val (.int xhi), .val (.ref rw), .val (.int xax), .val (.int xx), .val (.int xy), .val (.int xl), .val (.int xh), .val (.int xk), .unset]) rfl kt) ?_
  show own_Go p e below _ (T2.setTop (mkF m 48 #[.val (.long xa), .second, .val (.int xm), .val (.ref rb), .val (.int xlo), .val (.int xhi), .val (.ref rw), .val (.int xax), .val (.int xx), .val (.int xy), .val (.int xl), .val (.int xh), .val (.int xk), .unset] []))
  refine own_Go.st (fun _ kt => XS.iloadN X2.here hx rfl (hb hby own_d_method_4_48) rfl kt) ?_
  show own_Go p e below _ (T2.setTop (mkF m 49 #[.val (.long xa), .second, .val (.int xm), .val (.ref rb), .val (.int xlo), .val (.int xhi), .val (.ref rw), .val (.int xax), .val (.int xx), .val (.int xy), .val (.int xl), .val (.int xh), .val (.int xk), .unset] [(.int xm)]))
  rcases hm with rfl | rfl | rfl
  · show own_Go p e below _ (T2.setTop (mkF m 49 #[.val (.long xa), .second, .val (.int (0 : Int32)), .val (.ref rb), .val (.int xlo), .val (.int xhi), .val (.ref rw), .val (.int xax), .val (.int xx), .val (.int xy), .val (.int xl), .val (.int xh), .val (.int xk), .unset] [(.int (0 : Int32))]))
    refine own_Go.st (fun _ kt => XS.ifNo X2.here hx rfl (hb hby own_d_method_4_49) rfl ((if0 _ _).trans (teq rfl).2) kt) ?_
    show own_Go p e below _ (T2.setTop (mkF m 52 #[.val (.long xa), .second, .val (.int (0 : Int32)), .val (.ref rb), .val (.int xlo), .val (.int xhi), .val (.ref rw), .val (.int xax), .val (.int xx), .val (.int xy), .val (.int xl), .val (.int xh), .val (.int xk), .unset] []))
    have ex := own_fill0 xl xh xk bm bk
    refine own_Go.st (fun _ kt => XS.aloadN X2.here hx rfl (hb hby own_d_method_4_52) rfl rfl kt) ?_
    show own_Go p e below _ (T2.setTop (mkF m 53 #[.val (.long xa), .second, .val (.int (0 : Int32)), .val (.ref rb), .val (.int xlo), .val (.int xhi), .val (.ref rw), .val (.int xax), .val (.int xx), .val (.int xy), .val (.int xl), .val (.int xh), .val (.int xk), .unset] [(.ref rb)]))
    refine own_Go.st (fun _ kt => XS.iload X2.here hx rfl (hb hby own_d_method_4_53) rfl kt) ?_
    show own_Go p e below _ (T2.setTop (mkF m 55 #[.val (.long xa), .second, .val (.int (0 : Int32)), .val (.ref rb), .val (.int xlo), .val (.int xhi), .val (.ref rw), .val (.int xax), .val (.int xx), .val (.int xy), .val (.int xl), .val (.int xh), .val (.int xk), .unset] [(.int xlo), (.ref rb)]))
    refine own_Go.st (fun _ kt => XS.iload X2.here hx rfl (hb hby own_d_method_4_55) rfl kt) ?_
    show own_Go p e below _ (T2.setTop (mkF m 57 #[.val (.long xa), .second, .val (.int (0 : Int32)), .val (.ref rb), .val (.int xlo), .val (.int xhi), .val (.ref rw), .val (.int xax), .val (.int xx), .val (.int xy), .val (.int xl), .val (.int xh), .val (.int xk), .unset] [(.int xl), (.int xlo), (.ref rb)]))
    refine own_Go.st (fun _ kt => XS.i2dS X2.here hx rfl (hb hby own_d_method_4_57) rfl rfl kt) ?_
    show own_Go p e below _ (T2.setTop (mkF m 58 #[.val (.long xa), .second, .val (.int (0 : Int32)), .val (.ref rb), .val (.int xlo), .val (.int xhi), .val (.ref rw), .val (.int xax), .val (.int xx), .val (.int xy), .val (.int xl), .val (.int xh), .val (.int xk), .unset] [(.double (FP.i2d xl)), (.int xlo), (.ref rb)]))
    obtain ⟨T3, h3, X3, e3, W3, st3⟩ := own_dst X2 hx hZ hh2 ab hil li (g := (mkF m 58 #[.val (.long xa), .second, .val (.int (0 : Int32)), .val (.ref rb), .val (.int xlo), .val (.int xhi), .val (.ref rw), .val (.int xax), .val (.int xx), .val (.int xy), .val (.int xl), .val (.int xh), .val (.int xk), .unset] [(.double (FP.i2d xl)), (.int xlo), (.ref rb)])) rfl rfl (hb hby own_d_method_4_58)
    refine own_Go.st st3 ?_
    have N3 := Fr.snoc X3 N2 gb
    have a3 := own_Ar.set ab W3
    have zz4 : n0 ≤ Array.size h3 := Nat.le_trans Z0 (Nat.le_of_eq (Wr.size W3).symm)
    have kk4 : Keep h0 h3 [rb, rw] := kk0.wr W3 (Or.inl (List.mem_of_getElem? (i := 0) rfl))
    show own_Go p e below _ (T3.setTop (mkF m 59 #[.val (.long xa), .second, .val (.int (0 : Int32)), .val (.ref rb), .val (.int xlo), .val (.int xhi), .val (.ref rw), .val (.int xax), .val (.int xx), .val (.int xy), .val (.int xl), .val (.int xh), .val (.int xk), .unset] []))
    refine own_Go.st (fun _ kt => XS.aloadN X3.here hx rfl (hb hby own_d_method_4_59) rfl rfl kt) ?_
    show own_Go p e below _ (T3.setTop (mkF m 60 #[.val (.long xa), .second, .val (.int (0 : Int32)), .val (.ref rb), .val (.int xlo), .val (.int xhi), .val (.ref rw), .val (.int xax), .val (.int xx), .val (.int xy), .val (.int xl), .val (.int xh), .val (.int xk), .unset] [(.ref rb)]))
    refine own_Go.st (fun _ kt => XS.iload X3.here hx rfl (hb hby own_d_method_4_60) rfl kt) ?_
    show own_Go p e below _ (T3.setTop (mkF m 62 #[.val (.long xa), .second, .val (.int (0 : Int32)), .val (.ref rb), .val (.int xlo), .val (.int xhi), .val (.ref rw), .val (.int xax), .val (.int xx), .val (.int xy), .val (.int xl), .val (.int xh), .val (.int xk), .unset] [(.int xhi), (.ref rb)]))
    refine own_Go.st (fun _ kt => XS.iload X3.here hx rfl (hb hby own_d_method_4_62) rfl kt) ?_
    show own_Go p e below _ (T3.setTop (mkF m 64 #[.val (.long xa), .second, .val (.int (0 : Int32)), .val (.ref rb), .val (.int xlo), .val (.int xhi), .val (.ref rw), .val (.int xax), .val (.int xx), .val (.int xy), .val (.int xl), .val (.int xh), .val (.int xk), .unset] [(.int xh), (.int xhi), (.ref rb)]))
    refine own_Go.st (fun _ kt => XS.i2dS X3.here hx rfl (hb hby own_d_method_4_64) rfl rfl kt) ?_
    show own_Go p e below _ (T3.setTop (mkF m 65 #[.val (.long xa), .second, .val (.int (0 : Int32)), .val (.ref rb), .val (.int xlo), .val (.int xhi), .val (.ref rw), .val (.int xax), .val (.int xx), .val (.int xy), .val (.int xl), .val (.int xh), .val (.int xk), .unset] [(.double (FP.i2d xh)), (.int xhi), (.ref rb)]))
    obtain ⟨T5, h5, X5, e5, W5, st5⟩ := own_dst X3 hx hZ e3 a3 hih lh (g := (mkF m 65 #[.val (.long xa), .second, .val (.int (0 : Int32)), .val (.ref rb), .val (.int xlo), .val (.int xhi), .val (.ref rw), .val (.int xax), .val (.int xx), .val (.int xy), .val (.int xl), .val (.int xh), .val (.int xk), .unset] [(.double (FP.i2d xh)), (.int xhi), (.ref rb)])) rfl rfl (hb hby own_d_method_4_65)
    refine own_Go.st st5 ?_
    have N5 := Fr.snoc X5 N3 gb
    have a5 := own_Ar.set a3 W5
    have zz6 : n0 ≤ Array.size h5 := Nat.le_trans zz4 (Nat.le_of_eq (Wr.size W5).symm)
    have kk6 : Keep h0 h5 [rb, rw] := kk4.wr W5 (Or.inl (List.mem_of_getElem? (i := 0) rfl))
    show own_Go p e below _ (T5.setTop (mkF m 66 #[.val (.long xa), .second, .val (.int (0 : Int32)), .val (.ref rb), .val (.int xlo), .val (.int xhi), .val (.ref rw), .val (.int xax), .val (.int xx), .val (.int xy), .val (.int xl), .val (.int xh), .val (.int xk), .unset] []))
    refine own_Go.st (fun _ kt => XS.aload X5.here hx rfl (hb hby own_d_method_4_66) rfl rfl kt) ?_
    show own_Go p e below _ (T5.setTop (mkF m 68 #[.val (.long xa), .second, .val (.int (0 : Int32)), .val (.ref rb), .val (.int xlo), .val (.int xhi), .val (.ref rw), .val (.int xax), .val (.int xx), .val (.int xy), .val (.int xl), .val (.int xh), .val (.int xk), .unset] [(.ref rw)]))
    refine own_Go.st (fun _ kt => XS.iload X5.here hx rfl (hb hby own_d_method_4_68) rfl kt) ?_
    show own_Go p e below _ (T5.setTop (mkF m 70 #[.val (.long xa), .second, .val (.int (0 : Int32)), .val (.ref rb), .val (.int xlo), .val (.int xhi), .val (.ref rw), .val (.int xax), .val (.int xx), .val (.int xy), .val (.int xl), .val (.int xh), .val (.int xk), .unset] [(.int xax), (.ref rw)]))
    refine own_Go.st (fun _ kt => XS.iload X5.here hx rfl (hb hby own_d_method_4_70) rfl kt) ?_
    show own_Go p e below _ (T5.setTop (mkF m 72 #[.val (.long xa), .second, .val (.int (0 : Int32)), .val (.ref rb), .val (.int xlo), .val (.int xhi), .val (.ref rw), .val (.int xax), .val (.int xx), .val (.int xy), .val (.int xl), .val (.int xh), .val (.int xk), .unset] [(.int xk), (.int xax), (.ref rw)]))
    refine own_Go.st (fun _ kt => XS.i2dS X5.here hx rfl (hb hby own_d_method_4_72) rfl rfl kt) ?_
    show own_Go p e below _ (T5.setTop (mkF m 73 #[.val (.long xa), .second, .val (.int (0 : Int32)), .val (.ref rb), .val (.int xlo), .val (.int xhi), .val (.ref rw), .val (.int xax), .val (.int xx), .val (.int xy), .val (.int xl), .val (.int xh), .val (.int xk), .unset] [(.double (FP.i2d xk)), (.int xax), (.ref rw)]))
    refine own_Go.st (fun _ kt => X5.ldc2DoubleC hx hown (mvT hZ (hw _ (List.mem_of_getElem? (i := 27) rfl))) (g := (mkF m 73 #[.val (.long xa), .second, .val (.int (0 : Int32)), .val (.ref rb), .val (.int xlo), .val (.int xhi), .val (.ref rw), .val (.int xax), .val (.int xx), .val (.int xy), .val (.int xl), .val (.int xh), .val (.int xk), .unset] [(.double (FP.i2d xk)), (.int xax), (.ref rw)])) rfl (hb hby own_d_method_4_73) _ kt) ?_
    show own_Go p e below _ (T5.setTop (mkF m 76 #[.val (.long xa), .second, .val (.int (0 : Int32)), .val (.ref rb), .val (.int xlo), .val (.int xhi), .val (.ref rw), .val (.int xax), .val (.int xx), .val (.int xy), .val (.int xl), .val (.int xh), .val (.int xk), .unset] [(.double (4616189618054758400 : UInt64)), (.double (FP.i2d xk)), (.int xax), (.ref rw)]))
    refine own_Go.st (fun _ kt => XS.ddivS X5.here hx rfl (hb hby own_d_method_4_76) rfl (own_ext_nn ex).2.2 rfl kt) ?_
    show own_Go p e below _ (T5.setTop (mkF m 77 #[.val (.long xa), .second, .val (.int (0 : Int32)), .val (.ref rb), .val (.int xlo), .val (.int xhi), .val (.ref rw), .val (.int xax), .val (.int xx), .val (.int xy), .val (.int xl), .val (.int xh), .val (.int xk), .unset] [(.double (FP.ddiv (FP.i2d xk) (4616189618054758400 : UInt64))), (.int xax), (.ref rw)]))
    have f7 := ((aw.other W3 (Ne.symm hne)).other W5 (Ne.symm hne))
    obtain ⟨T8, h8, X8, e8, W8, st8⟩ := own_dst X5 hx hZ e5 f7 hix lx (g := (mkF m 77 #[.val (.long xa), .second, .val (.int (0 : Int32)), .val (.ref rb), .val (.int xlo), .val (.int xhi), .val (.ref rw), .val (.int xax), .val (.int xx), .val (.int xy), .val (.int xl), .val (.int xh), .val (.int xk), .unset] [(.double (FP.ddiv (FP.i2d xk) (4616189618054758400 : UInt64))), (.int xax), (.ref rw)])) rfl rfl (hb hby own_d_method_4_77)
    refine own_Go.st st8 ?_
    have N8 := Fr.snoc X8 N5 gw
    have a8 := own_Ar.set f7 W8
    have zz9 : n0 ≤ Array.size h8 := Nat.le_trans zz6 (Nat.le_of_eq (Wr.size W8).symm)
    have kk9 : Keep h0 h8 [rb, rw] := kk6.wr W8 (Or.inl (List.mem_of_getElem? (i := 1) rfl))
    show own_Go p e below _ (T8.setTop (mkF m 78 #[.val (.long xa), .second, .val (.int (0 : Int32)), .val (.ref rb), .val (.int xlo), .val (.int xhi), .val (.ref rw), .val (.int xax), .val (.int xx), .val (.int xy), .val (.int xl), .val (.int xh), .val (.int xk), .unset] []))
    refine own_Go.st (fun _ kt => XS.iload X8.here hx rfl (hb hby own_d_method_4_78) rfl kt) ?_
    show own_Go p e below _ (T8.setTop (mkF m 80 #[.val (.long xa), .second, .val (.int (0 : Int32)), .val (.ref rb), .val (.int xlo), .val (.int xhi), .val (.ref rw), .val (.int xax), .val (.int xx), .val (.int xy), .val (.int xl), .val (.int xh), .val (.int xk), .unset] [(.int xh)]))
    refine own_Go.st (fun _ kt => XS.iload X8.here hx rfl (hb hby own_d_method_4_80) rfl kt) ?_
    show own_Go p e below _ (T8.setTop (mkF m 82 #[.val (.long xa), .second, .val (.int (0 : Int32)), .val (.ref rb), .val (.int xlo), .val (.int xhi), .val (.ref rw), .val (.int xax), .val (.int xx), .val (.int xy), .val (.int xl), .val (.int xh), .val (.int xk), .unset] [(.int xl), (.int xh)]))
    refine own_Go.st (fun _ kt => XS.isub X8.here hx rfl (hb hby own_d_method_4_82) rfl kt) ?_
    show own_Go p e below _ (T8.setTop (mkF m 83 #[.val (.long xa), .second, .val (.int (0 : Int32)), .val (.ref rb), .val (.int xlo), .val (.int xhi), .val (.ref rw), .val (.int xax), .val (.int xx), .val (.int xy), .val (.int xl), .val (.int xh), .val (.int xk), .unset] [(.int (xh - xl))]))
    refine own_Go.st (fun _ kt => XS.i2l X8.here hx rfl (hb hby own_d_method_4_83) rfl kt) ?_
    show own_Go p e below _ (T8.setTop (mkF m 84 #[.val (.long xa), .second, .val (.int (0 : Int32)), .val (.ref rb), .val (.int xlo), .val (.int xhi), .val (.ref rw), .val (.int xax), .val (.int xx), .val (.int xy), .val (.int xl), .val (.int xh), .val (.int xk), .unset] [(.long ((xh - xl).toInt64))]))
    refine own_Go.st (fun _ kt => XS.iload X8.here hx rfl (hb hby own_d_method_4_84) rfl kt) ?_
    show own_Go p e below _ (T8.setTop (mkF m 86 #[.val (.long xa), .second, .val (.int (0 : Int32)), .val (.ref rb), .val (.int xlo), .val (.int xhi), .val (.ref rw), .val (.int xax), .val (.int xx), .val (.int xy), .val (.int xl), .val (.int xh), .val (.int xk), .unset] [(.int xk), (.long ((xh - xl).toInt64))]))
    refine own_Go.st (fun _ kt => XS.i2l X8.here hx rfl (hb hby own_d_method_4_86) rfl kt) ?_
    show own_Go p e below _ (T8.setTop (mkF m 87 #[.val (.long xa), .second, .val (.int (0 : Int32)), .val (.ref rb), .val (.int xlo), .val (.int xhi), .val (.ref rw), .val (.int xax), .val (.int xx), .val (.int xy), .val (.int xl), .val (.int xh), .val (.int xk), .unset] [(.long (xk.toInt64)), (.long ((xh - xl).toInt64))]))
    refine own_Go.st (fun _ kt => XS.ladd X8.here hx rfl (hb hby own_d_method_4_87) rfl kt) ?_
    show own_Go p e below _ (T8.setTop (mkF m 88 #[.val (.long xa), .second, .val (.int (0 : Int32)), .val (.ref rb), .val (.int xlo), .val (.int xhi), .val (.ref rw), .val (.int xax), .val (.int xx), .val (.int xy), .val (.int xl), .val (.int xh), .val (.int xk), .unset] [(.long (((xh - xl).toInt64) + (xk.toInt64)))]))
    have f10 := (a5.other W8 hne)
    have fa := f10
    have fv := a8
    rw [← e8] at fa fv
    exact own_retJ X8 hx Bd.notSynchronized Bd.returns (hb hby own_d_method_4_88) (by decide) (by decide) ⟨_, _, _, _, _, rfl, N8, ex, (fun q => absurd q (by decide)), (fun _ => own_nlong xl xh xk bm bk), fa, fv, e8 ▸ kk9⟩
  · show own_Go p e below _ (T2.setTop (mkF m 49 #[.val (.long xa), .second, .val (.int (1 : Int32)), .val (.ref rb), .val (.int xlo), .val (.int xhi), .val (.ref rw), .val (.int xax), .val (.int xx), .val (.int xy), .val (.int xl), .val (.int xh), .val (.int xk), .unset] [(.int (1 : Int32))]))
    refine own_Go.st (fun _ kt => XS.ifYes X2.here hx rfl (pc0 := 49) (pc' := 89) rfl (hb hby own_d_method_4_49) rfl ((if0 _ _).trans (feq (by decide)).2) (by decide) (by decide) kt) ?_
    show own_Go p e below _ (T2.setTop (mkF m 89 #[.val (.long xa), .second, .val (.int (1 : Int32)), .val (.ref rb), .val (.int xlo), .val (.int xhi), .val (.ref rw), .val (.int xax), .val (.int xx), .val (.int xy), .val (.int xl), .val (.int xh), .val (.int xk), .unset] []))
    refine own_Go.st (fun _ kt => XS.iloadN X2.here hx rfl (hb hby own_d_method_4_89) rfl kt) ?_
    show own_Go p e below _ (T2.setTop (mkF m 90 #[.val (.long xa), .second, .val (.int (1 : Int32)), .val (.ref rb), .val (.int xlo), .val (.int xhi), .val (.ref rw), .val (.int xax), .val (.int xx), .val (.int xy), .val (.int xl), .val (.int xh), .val (.int xk), .unset] [(.int (1 : Int32))]))
    refine own_Go.st (fun _ kt => XS.iconst X2.here hx rfl (hb hby own_d_method_4_90) kt) ?_
    show own_Go p e below _ (T2.setTop (mkF m 91 #[.val (.long xa), .second, .val (.int (1 : Int32)), .val (.ref rb), .val (.int xlo), .val (.int xhi), .val (.ref rw), .val (.int xax), .val (.int xx), .val (.int xy), .val (.int xl), .val (.int xh), .val (.int xk), .unset] [(.int (1 : Int32)), (.int (1 : Int32))]))
    refine own_Go.st (fun _ kt => XS.icmpNo X2.here hx rfl (hb hby own_d_method_4_91) rfl (teq rfl).2 kt) ?_
    show own_Go p e below _ (T2.setTop (mkF m 94 #[.val (.long xa), .second, .val (.int (1 : Int32)), .val (.ref rb), .val (.int xlo), .val (.int xhi), .val (.ref rw), .val (.int xax), .val (.int xx), .val (.int xy), .val (.int xl), .val (.int xh), .val (.int xk), .unset] []))
    have ex := own_fill1 xl xh xk bm bk
    refine own_Go.st (fun _ kt => XS.aloadN X2.here hx rfl (hb hby own_d_method_4_94) rfl rfl kt) ?_
    show own_Go p e below _ (T2.setTop (mkF m 95 #[.val (.long xa), .second, .val (.int (1 : Int32)), .val (.ref rb), .val (.int xlo), .val (.int xhi), .val (.ref rw), .val (.int xax), .val (.int xx), .val (.int xy), .val (.int xl), .val (.int xh), .val (.int xk), .unset] [(.ref rb)]))
    refine own_Go.st (fun _ kt => XS.iload X2.here hx rfl (hb hby own_d_method_4_95) rfl kt) ?_
    show own_Go p e below _ (T2.setTop (mkF m 97 #[.val (.long xa), .second, .val (.int (1 : Int32)), .val (.ref rb), .val (.int xlo), .val (.int xhi), .val (.ref rw), .val (.int xax), .val (.int xx), .val (.int xy), .val (.int xl), .val (.int xh), .val (.int xk), .unset] [(.int xlo), (.ref rb)]))
    refine own_Go.st (fun _ kt => XS.iload X2.here hx rfl (hb hby own_d_method_4_97) rfl kt) ?_
    show own_Go p e below _ (T2.setTop (mkF m 99 #[.val (.long xa), .second, .val (.int (1 : Int32)), .val (.ref rb), .val (.int xlo), .val (.int xhi), .val (.ref rw), .val (.int xax), .val (.int xx), .val (.int xy), .val (.int xl), .val (.int xh), .val (.int xk), .unset] [(.int xl), (.int xlo), (.ref rb)]))
    refine own_Go.st (fun _ kt => XS.i2dS X2.here hx rfl (hb hby own_d_method_4_99) rfl rfl kt) ?_
    show own_Go p e below _ (T2.setTop (mkF m 100 #[.val (.long xa), .second, .val (.int (1 : Int32)), .val (.ref rb), .val (.int xlo), .val (.int xhi), .val (.ref rw), .val (.int xax), .val (.int xx), .val (.int xy), .val (.int xl), .val (.int xh), .val (.int xk), .unset] [(.double (FP.i2d xl)), (.int xlo), (.ref rb)]))
    refine own_Go.st (fun _ kt => X2.ldc2DoubleC hx hown (mvT hZ (hw _ (List.mem_of_getElem? (i := 34) rfl))) (g := (mkF m 100 #[.val (.long xa), .second, .val (.int (1 : Int32)), .val (.ref rb), .val (.int xlo), .val (.int xhi), .val (.ref rw), .val (.int xax), .val (.int xx), .val (.int xy), .val (.int xl), .val (.int xh), .val (.int xk), .unset] [(.double (FP.i2d xl)), (.int xlo), (.ref rb)])) rfl (hb hby own_d_method_4_100) _ kt) ?_
    show own_Go p e below _ (T2.setTop (mkF m 103 #[.val (.long xa), .second, .val (.int (1 : Int32)), .val (.ref rb), .val (.int xlo), .val (.int xhi), .val (.ref rw), .val (.int xax), .val (.int xx), .val (.int xy), .val (.int xl), .val (.int xh), .val (.int xk), .unset] [(.double (9151314442816847872 : UInt64)), (.double (FP.i2d xl)), (.int xlo), (.ref rb)]))
    refine own_Go.st (fun _ kt => XS.dmulS X2.here hx rfl (hb hby own_d_method_4_103) rfl (own_ext_nn ex).1 rfl kt) ?_
    show own_Go p e below _ (T2.setTop (mkF m 104 #[.val (.long xa), .second, .val (.int (1 : Int32)), .val (.ref rb), .val (.int xlo), .val (.int xhi), .val (.ref rw), .val (.int xax), .val (.int xx), .val (.int xy), .val (.int xl), .val (.int xh), .val (.int xk), .unset] [(.double (FP.dmul (FP.i2d xl) (9151314442816847872 : UInt64))), (.int xlo), (.ref rb)]))
    obtain ⟨T11, h11, X11, e11, W11, st11⟩ := own_dst X2 hx hZ hh2 ab hil li (g := (mkF m 104 #[.val (.long xa), .second, .val (.int (1 : Int32)), .val (.ref rb), .val (.int xlo), .val (.int xhi), .val (.ref rw), .val (.int xax), .val (.int xx), .val (.int xy), .val (.int xl), .val (.int xh), .val (.int xk), .unset] [(.double (FP.dmul (FP.i2d xl) (9151314442816847872 : UInt64))), (.int xlo), (.ref rb)])) rfl rfl (hb hby own_d_method_4_104)
    refine own_Go.st st11 ?_
    have N11 := Fr.snoc X11 N2 gb
    have a11 := own_Ar.set ab W11
    have zz12 : n0 ≤ Array.size h11 := Nat.le_trans Z0 (Nat.le_of_eq (Wr.size W11).symm)
    have kk12 : Keep h0 h11 [rb, rw] := kk0.wr W11 (Or.inl (List.mem_of_getElem? (i := 0) rfl))
    show own_Go p e below _ (T11.setTop (mkF m 105 #[.val (.long xa), .second, .val (.int (1 : Int32)), .val (.ref rb), .val (.int xlo), .val (.int xhi), .val (.ref rw), .val (.int xax), .val (.int xx), .val (.int xy), .val (.int xl), .val (.int xh), .val (.int xk), .unset] []))
    refine own_Go.st (fun _ kt => XS.aloadN X11.here hx rfl (hb hby own_d_method_4_105) rfl rfl kt) ?_
    show own_Go p e below _ (T11.setTop (mkF m 106 #[.val (.long xa), .second, .val (.int (1 : Int32)), .val (.ref rb), .val (.int xlo), .val (.int xhi), .val (.ref rw), .val (.int xax), .val (.int xx), .val (.int xy), .val (.int xl), .val (.int xh), .val (.int xk), .unset] [(.ref rb)]))
    refine own_Go.st (fun _ kt => XS.iload X11.here hx rfl (hb hby own_d_method_4_106) rfl kt) ?_
    show own_Go p e below _ (T11.setTop (mkF m 108 #[.val (.long xa), .second, .val (.int (1 : Int32)), .val (.ref rb), .val (.int xlo), .val (.int xhi), .val (.ref rw), .val (.int xax), .val (.int xx), .val (.int xy), .val (.int xl), .val (.int xh), .val (.int xk), .unset] [(.int xhi), (.ref rb)]))
    refine own_Go.st (fun _ kt => XS.iload X11.here hx rfl (hb hby own_d_method_4_108) rfl kt) ?_
    show own_Go p e below _ (T11.setTop (mkF m 110 #[.val (.long xa), .second, .val (.int (1 : Int32)), .val (.ref rb), .val (.int xlo), .val (.int xhi), .val (.ref rw), .val (.int xax), .val (.int xx), .val (.int xy), .val (.int xl), .val (.int xh), .val (.int xk), .unset] [(.int xh), (.int xhi), (.ref rb)]))
    refine own_Go.st (fun _ kt => XS.i2dS X11.here hx rfl (hb hby own_d_method_4_110) rfl rfl kt) ?_
    show own_Go p e below _ (T11.setTop (mkF m 111 #[.val (.long xa), .second, .val (.int (1 : Int32)), .val (.ref rb), .val (.int xlo), .val (.int xhi), .val (.ref rw), .val (.int xax), .val (.int xx), .val (.int xy), .val (.int xl), .val (.int xh), .val (.int xk), .unset] [(.double (FP.i2d xh)), (.int xhi), (.ref rb)]))
    refine own_Go.st (fun _ kt => X11.ldc2DoubleC hx hown (mvT hZ (hw _ (List.mem_of_getElem? (i := 34) rfl))) (g := (mkF m 111 #[.val (.long xa), .second, .val (.int (1 : Int32)), .val (.ref rb), .val (.int xlo), .val (.int xhi), .val (.ref rw), .val (.int xax), .val (.int xx), .val (.int xy), .val (.int xl), .val (.int xh), .val (.int xk), .unset] [(.double (FP.i2d xh)), (.int xhi), (.ref rb)])) rfl (hb hby own_d_method_4_111) _ kt) ?_
    show own_Go p e below _ (T11.setTop (mkF m 114 #[.val (.long xa), .second, .val (.int (1 : Int32)), .val (.ref rb), .val (.int xlo), .val (.int xhi), .val (.ref rw), .val (.int xax), .val (.int xx), .val (.int xy), .val (.int xl), .val (.int xh), .val (.int xk), .unset] [(.double (9151314442816847872 : UInt64)), (.double (FP.i2d xh)), (.int xhi), (.ref rb)]))
    refine own_Go.st (fun _ kt => XS.dmulS X11.here hx rfl (hb hby own_d_method_4_114) rfl (own_ext_nn ex).2.1 rfl kt) ?_
    show own_Go p e below _ (T11.setTop (mkF m 115 #[.val (.long xa), .second, .val (.int (1 : Int32)), .val (.ref rb), .val (.int xlo), .val (.int xhi), .val (.ref rw), .val (.int xax), .val (.int xx), .val (.int xy), .val (.int xl), .val (.int xh), .val (.int xk), .unset] [(.double (FP.dmul (FP.i2d xh) (9151314442816847872 : UInt64))), (.int xhi), (.ref rb)]))
    obtain ⟨T13, h13, X13, e13, W13, st13⟩ := own_dst X11 hx hZ e11 a11 hih lh (g := (mkF m 115 #[.val (.long xa), .second, .val (.int (1 : Int32)), .val (.ref rb), .val (.int xlo), .val (.int xhi), .val (.ref rw), .val (.int xax), .val (.int xx), .val (.int xy), .val (.int xl), .val (.int xh), .val (.int xk), .unset] [(.double (FP.dmul (FP.i2d xh) (9151314442816847872 : UInt64))), (.int xhi), (.ref rb)])) rfl rfl (hb hby own_d_method_4_115)
    refine own_Go.st st13 ?_
    have N13 := Fr.snoc X13 N11 gb
    have a13 := own_Ar.set a11 W13
    have zz14 : n0 ≤ Array.size h13 := Nat.le_trans zz12 (Nat.le_of_eq (Wr.size W13).symm)
    have kk14 : Keep h0 h13 [rb, rw] := kk12.wr W13 (Or.inl (List.mem_of_getElem? (i := 0) rfl))
    show own_Go p e below _ (T13.setTop (mkF m 116 #[.val (.long xa), .second, .val (.int (1 : Int32)), .val (.ref rb), .val (.int xlo), .val (.int xhi), .val (.ref rw), .val (.int xax), .val (.int xx), .val (.int xy), .val (.int xl), .val (.int xh), .val (.int xk), .unset] []))
    refine own_Go.st (fun _ kt => XS.aload X13.here hx rfl (hb hby own_d_method_4_116) rfl rfl kt) ?_
    show own_Go p e below _ (T13.setTop (mkF m 118 #[.val (.long xa), .second, .val (.int (1 : Int32)), .val (.ref rb), .val (.int xlo), .val (.int xhi), .val (.ref rw), .val (.int xax), .val (.int xx), .val (.int xy), .val (.int xl), .val (.int xh), .val (.int xk), .unset] [(.ref rw)]))
    refine own_Go.st (fun _ kt => XS.iload X13.here hx rfl (hb hby own_d_method_4_118) rfl kt) ?_
    show own_Go p e below _ (T13.setTop (mkF m 120 #[.val (.long xa), .second, .val (.int (1 : Int32)), .val (.ref rb), .val (.int xlo), .val (.int xhi), .val (.ref rw), .val (.int xax), .val (.int xx), .val (.int xy), .val (.int xl), .val (.int xh), .val (.int xk), .unset] [(.int xax), (.ref rw)]))
    refine own_Go.st (fun _ kt => XS.iload X13.here hx rfl (hb hby own_d_method_4_120) rfl kt) ?_
    show own_Go p e below _ (T13.setTop (mkF m 122 #[.val (.long xa), .second, .val (.int (1 : Int32)), .val (.ref rb), .val (.int xlo), .val (.int xhi), .val (.ref rw), .val (.int xax), .val (.int xx), .val (.int xy), .val (.int xl), .val (.int xh), .val (.int xk), .unset] [(.int xk), (.int xax), (.ref rw)]))
    refine own_Go.st (fun _ kt => XS.i2dS X13.here hx rfl (hb hby own_d_method_4_122) rfl rfl kt) ?_
    show own_Go p e below _ (T13.setTop (mkF m 123 #[.val (.long xa), .second, .val (.int (1 : Int32)), .val (.ref rb), .val (.int xlo), .val (.int xhi), .val (.ref rw), .val (.int xax), .val (.int xx), .val (.int xy), .val (.int xl), .val (.int xh), .val (.int xk), .unset] [(.double (FP.i2d xk)), (.int xax), (.ref rw)]))
    refine own_Go.st (fun _ kt => X13.ldc2DoubleC hx hown (mvT hZ (hw _ (List.mem_of_getElem? (i := 35) rfl))) (g := (mkF m 123 #[.val (.long xa), .second, .val (.int (1 : Int32)), .val (.ref rb), .val (.int xlo), .val (.int xhi), .val (.ref rw), .val (.int xax), .val (.int xx), .val (.int xy), .val (.int xl), .val (.int xh), .val (.int xk), .unset] [(.double (FP.i2d xk)), (.int xax), (.ref rw)])) rfl (hb hby own_d_method_4_123) _ kt) ?_
    show own_Go p e below _ (T13.setTop (mkF m 126 #[.val (.long xa), .second, .val (.int (1 : Int32)), .val (.ref rb), .val (.int xlo), .val (.int xhi), .val (.ref rw), .val (.int xax), .val (.int xx), .val (.int xy), .val (.int xl), .val (.int xh), .val (.int xk), .unset] [(.double (9142307243562106880 : UInt64)), (.double (FP.i2d xk)), (.int xax), (.ref rw)]))
    refine own_Go.st (fun _ kt => XS.dmulS X13.here hx rfl (hb hby own_d_method_4_126) rfl (own_ext_nn ex).2.2 rfl kt) ?_
    show own_Go p e below _ (T13.setTop (mkF m 127 #[.val (.long xa), .second, .val (.int (1 : Int32)), .val (.ref rb), .val (.int xlo), .val (.int xhi), .val (.ref rw), .val (.int xax), .val (.int xx), .val (.int xy), .val (.int xl), .val (.int xh), .val (.int xk), .unset] [(.double (FP.dmul (FP.i2d xk) (9142307243562106880 : UInt64))), (.int xax), (.ref rw)]))
    have f15 := ((aw.other W11 (Ne.symm hne)).other W13 (Ne.symm hne))
    obtain ⟨T16, h16, X16, e16, W16, st16⟩ := own_dst X13 hx hZ e13 f15 hix lx (g := (mkF m 127 #[.val (.long xa), .second, .val (.int (1 : Int32)), .val (.ref rb), .val (.int xlo), .val (.int xhi), .val (.ref rw), .val (.int xax), .val (.int xx), .val (.int xy), .val (.int xl), .val (.int xh), .val (.int xk), .unset] [(.double (FP.dmul (FP.i2d xk) (9142307243562106880 : UInt64))), (.int xax), (.ref rw)])) rfl rfl (hb hby own_d_method_4_127)
    refine own_Go.st st16 ?_
    have N16 := Fr.snoc X16 N13 gw
    have a16 := own_Ar.set f15 W16
    have zz17 : n0 ≤ Array.size h16 := Nat.le_trans zz14 (Nat.le_of_eq (Wr.size W16).symm)
    have kk17 : Keep h0 h16 [rb, rw] := kk14.wr W16 (Or.inl (List.mem_of_getElem? (i := 1) rfl))
    show own_Go p e below _ (T16.setTop (mkF m 128 #[.val (.long xa), .second, .val (.int (1 : Int32)), .val (.ref rb), .val (.int xlo), .val (.int xhi), .val (.ref rw), .val (.int xax), .val (.int xx), .val (.int xy), .val (.int xl), .val (.int xh), .val (.int xk), .unset] []))
    refine own_Go.st (fun _ kt => XS.iload X16.here hx rfl (hb hby own_d_method_4_128) rfl kt) ?_
    show own_Go p e below _ (T16.setTop (mkF m 130 #[.val (.long xa), .second, .val (.int (1 : Int32)), .val (.ref rb), .val (.int xlo), .val (.int xhi), .val (.ref rw), .val (.int xax), .val (.int xx), .val (.int xy), .val (.int xl), .val (.int xh), .val (.int xk), .unset] [(.int xh)]))
    refine own_Go.st (fun _ kt => XS.iload X16.here hx rfl (hb hby own_d_method_4_130) rfl kt) ?_
    show own_Go p e below _ (T16.setTop (mkF m 132 #[.val (.long xa), .second, .val (.int (1 : Int32)), .val (.ref rb), .val (.int xlo), .val (.int xhi), .val (.ref rw), .val (.int xax), .val (.int xx), .val (.int xy), .val (.int xl), .val (.int xh), .val (.int xk), .unset] [(.int xl), (.int xh)]))
    refine own_Go.st (fun _ kt => XS.isub X16.here hx rfl (hb hby own_d_method_4_132) rfl kt) ?_
    show own_Go p e below _ (T16.setTop (mkF m 133 #[.val (.long xa), .second, .val (.int (1 : Int32)), .val (.ref rb), .val (.int xlo), .val (.int xhi), .val (.ref rw), .val (.int xax), .val (.int xx), .val (.int xy), .val (.int xl), .val (.int xh), .val (.int xk), .unset] [(.int (xh - xl))]))
    refine own_Go.st (fun _ kt => XS.i2l X16.here hx rfl (hb hby own_d_method_4_133) rfl kt) ?_
    show own_Go p e below _ (T16.setTop (mkF m 134 #[.val (.long xa), .second, .val (.int (1 : Int32)), .val (.ref rb), .val (.int xlo), .val (.int xhi), .val (.ref rw), .val (.int xax), .val (.int xx), .val (.int xy), .val (.int xl), .val (.int xh), .val (.int xk), .unset] [(.long ((xh - xl).toInt64))]))
    refine own_Go.st (fun _ kt => XS.iload X16.here hx rfl (hb hby own_d_method_4_134) rfl kt) ?_
    show own_Go p e below _ (T16.setTop (mkF m 136 #[.val (.long xa), .second, .val (.int (1 : Int32)), .val (.ref rb), .val (.int xlo), .val (.int xhi), .val (.ref rw), .val (.int xax), .val (.int xx), .val (.int xy), .val (.int xl), .val (.int xh), .val (.int xk), .unset] [(.int xk), (.long ((xh - xl).toInt64))]))
    refine own_Go.st (fun _ kt => XS.i2l X16.here hx rfl (hb hby own_d_method_4_136) rfl kt) ?_
    show own_Go p e below _ (T16.setTop (mkF m 137 #[.val (.long xa), .second, .val (.int (1 : Int32)), .val (.ref rb), .val (.int xlo), .val (.int xhi), .val (.ref rw), .val (.int xax), .val (.int xx), .val (.int xy), .val (.int xl), .val (.int xh), .val (.int xk), .unset] [(.long (xk.toInt64)), (.long ((xh - xl).toInt64))]))
    refine own_Go.st (fun _ kt => XS.ladd X16.here hx rfl (hb hby own_d_method_4_137) rfl kt) ?_
    show own_Go p e below _ (T16.setTop (mkF m 138 #[.val (.long xa), .second, .val (.int (1 : Int32)), .val (.ref rb), .val (.int xlo), .val (.int xhi), .val (.ref rw), .val (.int xax), .val (.int xx), .val (.int xy), .val (.int xl), .val (.int xh), .val (.int xk), .unset] [(.long (((xh - xl).toInt64) + (xk.toInt64)))]))
    have f18 := (a13.other W16 hne)
    have fa := f18
    have fv := a16
    rw [← e16] at fa fv
    exact own_retJ X16 hx Bd.notSynchronized Bd.returns (hb hby own_d_method_4_138) (by decide) (by decide) ⟨_, _, _, _, _, rfl, N16, ex, (fun q => absurd q (by decide)), (fun _ => own_nlong xl xh xk bm bk), fa, fv, e16 ▸ kk17⟩
  · show own_Go p e below _ (T2.setTop (mkF m 49 #[.val (.long xa), .second, .val (.int (2 : Int32)), .val (.ref rb), .val (.int xlo), .val (.int xhi), .val (.ref rw), .val (.int xax), .val (.int xx), .val (.int xy), .val (.int xl), .val (.int xh), .val (.int xk), .unset] [(.int (2 : Int32))]))
    refine own_Go.st (fun _ kt => XS.ifYes X2.here hx rfl (pc0 := 49) (pc' := 89) rfl (hb hby own_d_method_4_49) rfl ((if0 _ _).trans (feq (by decide)).2) (by decide) (by decide) kt) ?_
    show own_Go p e below _ (T2.setTop (mkF m 89 #[.val (.long xa), .second, .val (.int (2 : Int32)), .val (.ref rb), .val (.int xlo), .val (.int xhi), .val (.ref rw), .val (.int xax), .val (.int xx), .val (.int xy), .val (.int xl), .val (.int xh), .val (.int xk), .unset] []))
    refine own_Go.st (fun _ kt => XS.iloadN X2.here hx rfl (hb hby own_d_method_4_89) rfl kt) ?_
    show own_Go p e below _ (T2.setTop (mkF m 90 #[.val (.long xa), .second, .val (.int (2 : Int32)), .val (.ref rb), .val (.int xlo), .val (.int xhi), .val (.ref rw), .val (.int xax), .val (.int xx), .val (.int xy), .val (.int xl), .val (.int xh), .val (.int xk), .unset] [(.int (2 : Int32))]))
    refine own_Go.st (fun _ kt => XS.iconst X2.here hx rfl (hb hby own_d_method_4_90) kt) ?_
    show own_Go p e below _ (T2.setTop (mkF m 91 #[.val (.long xa), .second, .val (.int (2 : Int32)), .val (.ref rb), .val (.int xlo), .val (.int xhi), .val (.ref rw), .val (.int xax), .val (.int xx), .val (.int xy), .val (.int xl), .val (.int xh), .val (.int xk), .unset] [(.int (1 : Int32)), (.int (2 : Int32))]))
    refine own_Go.st (fun _ kt => XS.icmpYes X2.here hx rfl (pc0 := 91) (pc' := 139) rfl (hb hby own_d_method_4_91) rfl (feq (by decide)).2 (by decide) (by decide) kt) ?_
    show own_Go p e below _ (T2.setTop (mkF m 139 #[.val (.long xa), .second, .val (.int (2 : Int32)), .val (.ref rb), .val (.int xlo), .val (.int xhi), .val (.ref rw), .val (.int xax), .val (.int xx), .val (.int xy), .val (.int xl), .val (.int xh), .val (.int xk), .unset] []))
    refine own_Go.st (fun _ kt => XS.iload X2.here hx rfl (hb hby own_d_method_4_139) rfl kt) ?_
    show own_Go p e below _ (T2.setTop (mkF m 141 #[.val (.long xa), .second, .val (.int (2 : Int32)), .val (.ref rb), .val (.int xlo), .val (.int xhi), .val (.ref rw), .val (.int xax), .val (.int xx), .val (.int xy), .val (.int xl), .val (.int xh), .val (.int xk), .unset] [(.int xk)]))
    refine own_Go.st (fun _ kt => XS.iconst X2.here hx rfl (hb hby own_d_method_4_141) kt) ?_
    show own_Go p e below _ (T2.setTop (mkF m 142 #[.val (.long xa), .second, .val (.int (2 : Int32)), .val (.ref rb), .val (.int xlo), .val (.int xhi), .val (.ref rw), .val (.int xax), .val (.int xx), .val (.int xy), .val (.int xl), .val (.int xh), .val (.int xk), .unset] [(.int (3 : Int32)), (.int xk)]))
    refine own_Go.st (fun _ kt => XS.iand X2.here hx rfl (hb hby own_d_method_4_142) rfl kt) ?_
    show own_Go p e below _ (T2.setTop (mkF m 143 #[.val (.long xa), .second, .val (.int (2 : Int32)), .val (.ref rb), .val (.int xlo), .val (.int xhi), .val (.ref rw), .val (.int xax), .val (.int xx), .val (.int xy), .val (.int xl), .val (.int xh), .val (.int xk), .unset] [(.int (xk &&& (3 : Int32)))]))
    obtain ⟨ie, he1, he2⟩ := own_and3 xk
    generalize (xk &&& (3 : Int32)) = xe at he1 ⊢
    show own_Go p e below _ (T2.setTop (mkF m 143 #[.val (.long xa), .second, .val (.int (2 : Int32)), .val (.ref rb), .val (.int xlo), .val (.int xhi), .val (.ref rw), .val (.int xax), .val (.int xx), .val (.int xy), .val (.int xl), .val (.int xh), .val (.int xk), .unset] [(.int xe)]))
    have ex := own_fill2 xx xe bx ⟨by omega, by omega⟩
    refine own_Go.st (fun _ kt => XS.istore X2.here hx rfl (hb hby own_d_method_4_143) rfl (l' := #[.val (.long xa), .second, .val (.int (2 : Int32)), .val (.ref rb), .val (.int xlo), .val (.int xhi), .val (.ref rw), .val (.int xax), .val (.int xx), .val (.int xy), .val (.int xl), .val (.int xh), .val (.int xk), .val (.int xe)]) rfl kt) ?_
    show own_Go p e below _ (T2.setTop (mkF m 145 #[.val (.long xa), .second, .val (.int (2 : Int32)), .val (.ref rb), .val (.int xlo), .val (.int xhi), .val (.ref rw), .val (.int xax), .val (.int xx), .val (.int xy), .val (.int xl), .val (.int xh), .val (.int xk), .val (.int xe)] []))
    refine own_Go.st (fun _ kt => XS.aloadN X2.here hx rfl (hb hby own_d_method_4_145) rfl rfl kt) ?_
    show own_Go p e below _ (T2.setTop (mkF m 146 #[.val (.long xa), .second, .val (.int (2 : Int32)), .val (.ref rb), .val (.int xlo), .val (.int xhi), .val (.ref rw), .val (.int xax), .val (.int xx), .val (.int xy), .val (.int xl), .val (.int xh), .val (.int xk), .val (.int xe)] [(.ref rb)]))
    refine own_Go.st (fun _ kt => XS.iload X2.here hx rfl (hb hby own_d_method_4_146) rfl kt) ?_
    show own_Go p e below _ (T2.setTop (mkF m 148 #[.val (.long xa), .second, .val (.int (2 : Int32)), .val (.ref rb), .val (.int xlo), .val (.int xhi), .val (.ref rw), .val (.int xax), .val (.int xx), .val (.int xy), .val (.int xl), .val (.int xh), .val (.int xk), .val (.int xe)] [(.int xlo), (.ref rb)]))
    refine own_Go.st (fun _ kt => XS.iload X2.here hx rfl (hb hby own_d_method_4_148) rfl kt) ?_
    show own_Go p e below _ (T2.setTop (mkF m 150 #[.val (.long xa), .second, .val (.int (2 : Int32)), .val (.ref rb), .val (.int xlo), .val (.int xhi), .val (.ref rw), .val (.int xax), .val (.int xx), .val (.int xy), .val (.int xl), .val (.int xh), .val (.int xk), .val (.int xe)] [(.int xx), (.int xlo), (.ref rb)]))
    refine own_Go.st (fun _ kt => XS.i2dS X2.here hx rfl (hb hby own_d_method_4_150) rfl rfl kt) ?_
    show own_Go p e below _ (T2.setTop (mkF m 151 #[.val (.long xa), .second, .val (.int (2 : Int32)), .val (.ref rb), .val (.int xlo), .val (.int xhi), .val (.ref rw), .val (.int xax), .val (.int xx), .val (.int xy), .val (.int xl), .val (.int xh), .val (.int xk), .val (.int xe)] [(.double (FP.i2d xx)), (.int xlo), (.ref rb)]))
    obtain ⟨T19, h19, X19, e19, W19, st19⟩ := own_dst X2 hx hZ hh2 ab hil li (g := (mkF m 151 #[.val (.long xa), .second, .val (.int (2 : Int32)), .val (.ref rb), .val (.int xlo), .val (.int xhi), .val (.ref rw), .val (.int xax), .val (.int xx), .val (.int xy), .val (.int xl), .val (.int xh), .val (.int xk), .val (.int xe)] [(.double (FP.i2d xx)), (.int xlo), (.ref rb)])) rfl rfl (hb hby own_d_method_4_151)
    refine own_Go.st st19 ?_
    have N19 := Fr.snoc X19 N2 gb
    have a19 := own_Ar.set ab W19
    have zz20 : n0 ≤ Array.size h19 := Nat.le_trans Z0 (Nat.le_of_eq (Wr.size W19).symm)
    have kk20 : Keep h0 h19 [rb, rw] := kk0.wr W19 (Or.inl (List.mem_of_getElem? (i := 0) rfl))
    show own_Go p e below _ (T19.setTop (mkF m 152 #[.val (.long xa), .second, .val (.int (2 : Int32)), .val (.ref rb), .val (.int xlo), .val (.int xhi), .val (.ref rw), .val (.int xax), .val (.int xx), .val (.int xy), .val (.int xl), .val (.int xh), .val (.int xk), .val (.int xe)] []))
    refine own_Go.st (fun _ kt => XS.aloadN X19.here hx rfl (hb hby own_d_method_4_152) rfl rfl kt) ?_
    show own_Go p e below _ (T19.setTop (mkF m 153 #[.val (.long xa), .second, .val (.int (2 : Int32)), .val (.ref rb), .val (.int xlo), .val (.int xhi), .val (.ref rw), .val (.int xax), .val (.int xx), .val (.int xy), .val (.int xl), .val (.int xh), .val (.int xk), .val (.int xe)] [(.ref rb)]))
    refine own_Go.st (fun _ kt => XS.iload X19.here hx rfl (hb hby own_d_method_4_153) rfl kt) ?_
    show own_Go p e below _ (T19.setTop (mkF m 155 #[.val (.long xa), .second, .val (.int (2 : Int32)), .val (.ref rb), .val (.int xlo), .val (.int xhi), .val (.ref rw), .val (.int xax), .val (.int xx), .val (.int xy), .val (.int xl), .val (.int xh), .val (.int xk), .val (.int xe)] [(.int xhi), (.ref rb)]))
    refine own_Go.st (fun _ kt => XS.iload X19.here hx rfl (hb hby own_d_method_4_155) rfl kt) ?_
    show own_Go p e below _ (T19.setTop (mkF m 157 #[.val (.long xa), .second, .val (.int (2 : Int32)), .val (.ref rb), .val (.int xlo), .val (.int xhi), .val (.ref rw), .val (.int xax), .val (.int xx), .val (.int xy), .val (.int xl), .val (.int xh), .val (.int xk), .val (.int xe)] [(.int xx), (.int xhi), (.ref rb)]))
    refine own_Go.st (fun _ kt => XS.iload X19.here hx rfl (hb hby own_d_method_4_157) rfl kt) ?_
    show own_Go p e below _ (T19.setTop (mkF m 159 #[.val (.long xa), .second, .val (.int (2 : Int32)), .val (.ref rb), .val (.int xlo), .val (.int xhi), .val (.ref rw), .val (.int xax), .val (.int xx), .val (.int xy), .val (.int xl), .val (.int xh), .val (.int xk), .val (.int xe)] [(.int xe), (.int xx), (.int xhi), (.ref rb)]))
    refine own_Go.st (fun _ kt => XS.iadd X19.here hx rfl (hb hby own_d_method_4_159) rfl kt) ?_
    show own_Go p e below _ (T19.setTop (mkF m 160 #[.val (.long xa), .second, .val (.int (2 : Int32)), .val (.ref rb), .val (.int xlo), .val (.int xhi), .val (.ref rw), .val (.int xax), .val (.int xx), .val (.int xy), .val (.int xl), .val (.int xh), .val (.int xk), .val (.int xe)] [(.int (xx + xe)), (.int xhi), (.ref rb)]))
    refine own_Go.st (fun _ kt => XS.i2dS X19.here hx rfl (hb hby own_d_method_4_160) rfl rfl kt) ?_
    show own_Go p e below _ (T19.setTop (mkF m 161 #[.val (.long xa), .second, .val (.int (2 : Int32)), .val (.ref rb), .val (.int xlo), .val (.int xhi), .val (.ref rw), .val (.int xax), .val (.int xx), .val (.int xy), .val (.int xl), .val (.int xh), .val (.int xk), .val (.int xe)] [(.double (FP.i2d (xx + xe))), (.int xhi), (.ref rb)]))
    obtain ⟨T21, h21, X21, e21, W21, st21⟩ := own_dst X19 hx hZ e19 a19 hih lh (g := (mkF m 161 #[.val (.long xa), .second, .val (.int (2 : Int32)), .val (.ref rb), .val (.int xlo), .val (.int xhi), .val (.ref rw), .val (.int xax), .val (.int xx), .val (.int xy), .val (.int xl), .val (.int xh), .val (.int xk), .val (.int xe)] [(.double (FP.i2d (xx + xe))), (.int xhi), (.ref rb)])) rfl rfl (hb hby own_d_method_4_161)
    refine own_Go.st st21 ?_
    have N21 := Fr.snoc X21 N19 gb
    have a21 := own_Ar.set a19 W21
    have zz22 : n0 ≤ Array.size h21 := Nat.le_trans zz20 (Nat.le_of_eq (Wr.size W21).symm)
    have kk22 : Keep h0 h21 [rb, rw] := kk20.wr W21 (Or.inl (List.mem_of_getElem? (i := 0) rfl))
    show own_Go p e below _ (T21.setTop (mkF m 162 #[.val (.long xa), .second, .val (.int (2 : Int32)), .val (.ref rb), .val (.int xlo), .val (.int xhi), .val (.ref rw), .val (.int xax), .val (.int xx), .val (.int xy), .val (.int xl), .val (.int xh), .val (.int xk), .val (.int xe)] []))
    refine own_Go.st (fun _ kt => XS.aload X21.here hx rfl (hb hby own_d_method_4_162) rfl rfl kt) ?_
    show own_Go p e below _ (T21.setTop (mkF m 164 #[.val (.long xa), .second, .val (.int (2 : Int32)), .val (.ref rb), .val (.int xlo), .val (.int xhi), .val (.ref rw), .val (.int xax), .val (.int xx), .val (.int xy), .val (.int xl), .val (.int xh), .val (.int xk), .val (.int xe)] [(.ref rw)]))
    refine own_Go.st (fun _ kt => XS.iload X21.here hx rfl (hb hby own_d_method_4_164) rfl kt) ?_
    show own_Go p e below _ (T21.setTop (mkF m 166 #[.val (.long xa), .second, .val (.int (2 : Int32)), .val (.ref rb), .val (.int xlo), .val (.int xhi), .val (.ref rw), .val (.int xax), .val (.int xx), .val (.int xy), .val (.int xl), .val (.int xh), .val (.int xk), .val (.int xe)] [(.int xax), (.ref rw)]))
    refine own_Go.st (fun _ kt => XS.iconst X21.here hx rfl (hb hby own_d_method_4_166) kt) ?_
    show own_Go p e below _ (T21.setTop (mkF m 167 #[.val (.long xa), .second, .val (.int (2 : Int32)), .val (.ref rb), .val (.int xlo), .val (.int xhi), .val (.ref rw), .val (.int xax), .val (.int xx), .val (.int xy), .val (.int xl), .val (.int xh), .val (.int xk), .val (.int xe)] [(.int (4 : Int32)), (.int xax), (.ref rw)]))
    refine own_Go.st (fun _ kt => XS.iload X21.here hx rfl (hb hby own_d_method_4_167) rfl kt) ?_
    show own_Go p e below _ (T21.setTop (mkF m 169 #[.val (.long xa), .second, .val (.int (2 : Int32)), .val (.ref rb), .val (.int xlo), .val (.int xhi), .val (.ref rw), .val (.int xax), .val (.int xx), .val (.int xy), .val (.int xl), .val (.int xh), .val (.int xk), .val (.int xe)] [(.int xe), (.int (4 : Int32)), (.int xax), (.ref rw)]))
    refine own_Go.st (fun _ kt => XS.isub X21.here hx rfl (hb hby own_d_method_4_169) rfl kt) ?_
    show own_Go p e below _ (T21.setTop (mkF m 170 #[.val (.long xa), .second, .val (.int (2 : Int32)), .val (.ref rb), .val (.int xlo), .val (.int xhi), .val (.ref rw), .val (.int xax), .val (.int xx), .val (.int xy), .val (.int xl), .val (.int xh), .val (.int xk), .val (.int xe)] [(.int ((4 : Int32) - xe)), (.int xax), (.ref rw)]))
    refine own_Go.st (fun _ kt => XS.i2dS X21.here hx rfl (hb hby own_d_method_4_170) rfl rfl kt) ?_
    show own_Go p e below _ (T21.setTop (mkF m 171 #[.val (.long xa), .second, .val (.int (2 : Int32)), .val (.ref rb), .val (.int xlo), .val (.int xhi), .val (.ref rw), .val (.int xax), .val (.int xx), .val (.int xy), .val (.int xl), .val (.int xh), .val (.int xk), .val (.int xe)] [(.double (FP.i2d ((4 : Int32) - xe))), (.int xax), (.ref rw)]))
    refine own_Go.st (fun _ kt => X21.ldc2DoubleC hx hown (mvT hZ (hw _ (List.mem_of_getElem? (i := 27) rfl))) (g := (mkF m 171 #[.val (.long xa), .second, .val (.int (2 : Int32)), .val (.ref rb), .val (.int xlo), .val (.int xhi), .val (.ref rw), .val (.int xax), .val (.int xx), .val (.int xy), .val (.int xl), .val (.int xh), .val (.int xk), .val (.int xe)] [(.double (FP.i2d ((4 : Int32) - xe))), (.int xax), (.ref rw)])) rfl (hb hby own_d_method_4_171) _ kt) ?_
    show own_Go p e below _ (T21.setTop (mkF m 174 #[.val (.long xa), .second, .val (.int (2 : Int32)), .val (.ref rb), .val (.int xlo), .val (.int xhi), .val (.ref rw), .val (.int xax), .val (.int xx), .val (.int xy), .val (.int xl), .val (.int xh), .val (.int xk), .val (.int xe)] [(.double (4616189618054758400 : UInt64)), (.double (FP.i2d ((4 : Int32) - xe))), (.int xax), (.ref rw)]))
    refine own_Go.st (fun _ kt => XS.ddivS X21.here hx rfl (hb hby own_d_method_4_174) rfl (own_ext_nn ex).2.2 rfl kt) ?_
    show own_Go p e below _ (T21.setTop (mkF m 175 #[.val (.long xa), .second, .val (.int (2 : Int32)), .val (.ref rb), .val (.int xlo), .val (.int xhi), .val (.ref rw), .val (.int xax), .val (.int xx), .val (.int xy), .val (.int xl), .val (.int xh), .val (.int xk), .val (.int xe)] [(.double (FP.ddiv (FP.i2d ((4 : Int32) - xe)) (4616189618054758400 : UInt64))), (.int xax), (.ref rw)]))
    have f23 := ((aw.other W19 (Ne.symm hne)).other W21 (Ne.symm hne))
    obtain ⟨T24, h24, X24, e24, W24, st24⟩ := own_dst X21 hx hZ e21 f23 hix lx (g := (mkF m 175 #[.val (.long xa), .second, .val (.int (2 : Int32)), .val (.ref rb), .val (.int xlo), .val (.int xhi), .val (.ref rw), .val (.int xax), .val (.int xx), .val (.int xy), .val (.int xl), .val (.int xh), .val (.int xk), .val (.int xe)] [(.double (FP.ddiv (FP.i2d ((4 : Int32) - xe)) (4616189618054758400 : UInt64))), (.int xax), (.ref rw)])) rfl rfl (hb hby own_d_method_4_175)
    refine own_Go.st st24 ?_
    have N24 := Fr.snoc X24 N21 gw
    have a24 := own_Ar.set f23 W24
    have zz25 : n0 ≤ Array.size h24 := Nat.le_trans zz22 (Nat.le_of_eq (Wr.size W24).symm)
    have kk25 : Keep h0 h24 [rb, rw] := kk22.wr W24 (Or.inl (List.mem_of_getElem? (i := 1) rfl))
    show own_Go p e below _ (T24.setTop (mkF m 176 #[.val (.long xa), .second, .val (.int (2 : Int32)), .val (.ref rb), .val (.int xlo), .val (.int xhi), .val (.ref rw), .val (.int xax), .val (.int xx), .val (.int xy), .val (.int xl), .val (.int xh), .val (.int xk), .val (.int xe)] []))
    refine own_Go.st (fun _ kt => XS.lconst X24.here hx rfl (hb hby own_d_method_4_176) kt) ?_
    show own_Go p e below _ (T24.setTop (mkF m 177 #[.val (.long xa), .second, .val (.int (2 : Int32)), .val (.ref rb), .val (.int xlo), .val (.int xhi), .val (.ref rw), .val (.int xax), .val (.int xx), .val (.int xy), .val (.int xl), .val (.int xh), .val (.int xk), .val (.int xe)] [(.long (1 : Int64))]))
    have f26 := (a21.other W24 hne)
    have fa := f26
    have fv := a24
    rw [← e24] at fa fv
    exact own_retJ X24 hx Bd.notSynchronized Bd.returns (hb hby own_d_method_4_177) (by decide) (by decide) ⟨_, _, _, _, _, rfl, N24, ex, (fun _ => ⟨rfl, rfl⟩), (fun q => absurd rfl q), fa, fv, e24 ▸ kk25⟩
theorem own_pn1 : plainName "com/example/thicket/thicket/PackedLevel" = true := by first | (simp [plainName, overriddenIn]; done) | decide +kernel
theorem own_ef5 (m : MethodId) (x0 : Addr) (x1 : Int32) (x2 : Addr) : entryFrame m #[(.ref x0), (.int x1), (.ref x2)] 7 = mkF m 0 #[.val (.ref x0), .val (.int x1), .val (.ref x2), .unset, .unset, .unset, .unset] [] := by first | (simp [entryFrame, mkF, argsToLocals, Value.category]; done) | rfl
theorem own_d_prog_62_14_0 : decode prog_62_method_14_code 0 = .ok (.aload_n 2, 1) := by decide +kernel
theorem own_d_prog_62_14_1 : decode prog_62_method_14_code 1 = .ok (.arraylength, 1) := by decide +kernel
theorem own_d_prog_62_14_2 : decode prog_62_method_14_code 2 = .ok (.istore_n 3, 1) := by decide +kernel
theorem own_d_prog_62_14_3 : decode prog_62_method_14_code 3 = .ok (.aload_n 0, 1) := by decide +kernel
theorem own_d_prog_62_14_4 : decode prog_62_method_14_code 4 = .ok (.iload_n 1, 1) := by decide +kernel
theorem own_d_prog_62_14_5 : decode prog_62_method_14_code 5 = .ok (.iload_n 3, 1) := by decide +kernel
theorem own_d_prog_62_14_6 : decode prog_62_method_14_code 6 = .ok (.iadd, 1) := by decide +kernel
theorem own_d_prog_62_14_7 : decode prog_62_method_14_code 7 = .ok (.daload, 1) := by decide +kernel
theorem own_d_prog_62_14_8 : decode prog_62_method_14_code 8 = .ok (.ldc2_w 201, 3) := by decide +kernel
theorem own_d_prog_62_14_11 : decode prog_62_method_14_code 11 = .ok (.ddiv, 1) := by decide +kernel
theorem own_d_prog_62_14_12 : decode prog_62_method_14_code 12 = .ok (.aload_n 0, 1) := by decide +kernel
theorem own_d_prog_62_14_13 : decode prog_62_method_14_code 13 = .ok (.iload_n 1, 1) := by decide +kernel
theorem own_d_prog_62_14_14 : decode prog_62_method_14_code 14 = .ok (.daload, 1) := by decide +kernel
theorem own_d_prog_62_14_15 : decode prog_62_method_14_code 15 = .ok (.ldc2_w 201, 3) := by decide +kernel
theorem own_d_prog_62_14_18 : decode prog_62_method_14_code 18 = .ok (.ddiv, 1) := by decide +kernel
theorem own_d_prog_62_14_19 : decode prog_62_method_14_code 19 = .ok (.dsub, 1) := by decide +kernel
theorem own_d_prog_62_14_20 : decode prog_62_method_14_code 20 = .ok (.aload_n 2, 1) := by decide +kernel
theorem own_d_prog_62_14_21 : decode prog_62_method_14_code 21 = .ok (.iconst 0, 1) := by decide +kernel
theorem own_d_prog_62_14_22 : decode prog_62_method_14_code 22 = .ok (.daload, 1) := by decide +kernel
theorem own_d_prog_62_14_23 : decode prog_62_method_14_code 23 = .ok (.dadd, 1) := by decide +kernel
theorem own_d_prog_62_14_24 : decode prog_62_method_14_code 24 = .ok (.dstore 4, 2) := by decide +kernel
theorem own_d_prog_62_14_26 : decode prog_62_method_14_code 26 = .ok (.iconst 1, 1) := by decide +kernel
theorem own_d_prog_62_14_27 : decode prog_62_method_14_code 27 = .ok (.istore 6, 2) := by decide +kernel
theorem own_d_prog_62_14_29 : decode prog_62_method_14_code 29 = .ok (.iload 6, 2) := by decide +kernel
theorem own_d_prog_62_14_31 : decode prog_62_method_14_code 31 = .ok (.iload_n 3, 1) := by decide +kernel
theorem own_d_prog_62_14_32 : decode prog_62_method_14_code 32 = .ok (.if_icmp .ge 42, 3) := by decide +kernel
theorem own_d_prog_62_14_74 : decode prog_62_method_14_code 74 = .ok (.dload 4, 2) := by decide +kernel
theorem own_d_prog_62_14_76 : decode prog_62_method_14_code 76 = .ok (.dreturn, 1) := by decide +kernel
def own_Q_own_gv1 (Z : State) (rb : Addr) (xat : Int32) (rw : Addr) (ia : Nat) (fb fw : Nat → Value) (x0 y0 z0 : UInt64) (G0 : Int) (E0 : Nat)  (h0 : Heap) (n0 : Nat) (v : Option Value) (h : Heap) (L : List Loc) : Prop := ∃ d, v = some (.double d) ∧ Fr n0 L ∧ own_D d (G0 * ((2 ^ E0 : Nat) : Int)) ∧ h = h0
set_option maxRecDepth 65536 in
set_option maxHeartbeats 40000000 in
theorem own_gv1 (l : Launch) (Z : State) (a0 : Array Value) (hw : ∀ d ∈ tables_1, d.before a0 Z = true) (ws : List Jvm.Cond) (rb : Addr) (xat : Int32) (rw : Addr) (ia : Nat) (fb fw : Nat → Value) (x0 y0 z0 : UInt64) (G0 : Int) (E0 : Nat)  (h0 : Heap) (n0 : Nat) (Z0 : n0 ≤ h0.size) (ab : own_Ar Z h0 rb .double 10 fb) (aw : own_Ar Z h0 rw .double 1 fw) (hat : xat.toInt = (ia : Int)) (la : ia < 4) (ex0 : own_ext x0 y0 z0 G0 E0) (le0 : E0 ≤ 2081) (fx0 : fb (ia + 0) = .double x0) (fy0 : fb (ia + 1 + 0) = .double y0) (fz0 : fw 0 = .double z0)  :
    MetFree l (⟨"com/example/thicket/thicket/PackedLevel", "grownVolume", "([DI[D)D"⟩ : MethodName) (head1 (Jvm.Cond.code (⟨"com/example/thicket/thicket/PackedLevel", "grownVolume", "([DI[D)D"⟩ : MethodName) prog_62_method_14_code 7 (some .double) :: ws) ({ frames := 0, cells := 0, slots := 0, locals := 0 } : Room)) (fun av_ U => av_ = #[(.ref rb), (.int xat), (.ref rw)] ∧ Z.Warmed39 U.vm ∧ U.heap = h0) (fun _ _ _ _ _ => True) (fun _ U o U' => ∃ v L, o = .returned v ∧ own_Q_own_gv1 Z rb xat rw ia fb fw x0 y0 z0 G0 E0 h0 n0 v U'.heap L ∧ FrameEnd U o U' L ({ frames := 0, cells := 0, slots := 0, locals := 0 } : Room).cells ({ frames := 0, cells := 0, slots := 0, locals := 0 } : Room).slots) := by
  refine MetFree.of_bodySF (plainFor_of_name own_pn1) hisR ?_
  intro p e s m args below meth c s₁ Bd hml0 hP hK
  obtain ⟨rfl, hZ, hh⟩ := hP
  have hx := Bd.exec
  have hby := Bd.bytes
  have hml : c.maxLocals = 7 := hml0
  have hown : s.vm.findClass "com/example/thicket/thicket/PackedLevel" = some m.cls := findClass_of_methodNamed Bd.named
  have hnm := (name_of_methodNamed Bd.named Bd.method).1
  have X0 : Stand p l e ({ frames := 0, cells := 0, slots := 0, locals := 0 } : Room) s m #[(.ref rb), (.int xat), (.ref rw)] below meth c s₁ [] 0 0 := Stand.of_body Bd
  have e0 : s₁.heap = h0 := by rw [← hh, Bd.state]; rfl
  have N0 := Fr.nil n0
  suffices hgo : own_Go p e below (fun o U' => ∃ v L, o = .returned v ∧ own_Q_own_gv1 Z rb xat rw ia fb fw x0 y0 z0 G0 E0 h0 n0 v U'.heap L ∧ FrameEnd s o U' L ({ frames := 0, cells := 0, slots := 0, locals := 0 } : Room).cells ({ frames := 0, cells := 0, slots := 0, locals := 0 } : Room).slots) (s₁.setTop (mkF m 0 #[.val (.ref rb), .val (.int xat), .val (.ref rw), .unset, .unset, .unset, .unset] [])) by
    obtain ⟨s₂, o, h1, h2, h3, h4⟩ := hgo
    exact ⟨s₂, o, castTop (own_ef5 m rb xat rw) h1, h2, h3, h4⟩
  show own_Go p e below _ (s₁.setTop (mkF m 0 #[.val (.ref rb), .val (.int xat), .val (.ref rw), .unset, .unset, .unset, .unset] []))
  refine own_Go.st (fun _ kt => XS.aloadN X0.here hx rfl (hb hby own_d_prog_62_14_0) rfl rfl kt) ?_
  show own_Go p e below _ (s₁.setTop (mkF m 1 #[.val (.ref rb), .val (.int xat), .val (.ref rw), .unset, .unset, .unset, .unset] [(.ref rw)]))
  refine own_Go.st (fun _ kt => own_alen X0 hx hZ e0 aw (z := (1 : Int32)) (by decide) (g := (mkF m 1 #[.val (.ref rb), .val (.int xat), .val (.ref rw), .unset, .unset, .unset, .unset] [(.ref rw)])) rfl rfl (hb hby own_d_prog_62_14_1) _ kt) ?_
  show own_Go p e below _ (s₁.setTop (mkF m 2 #[.val (.ref rb), .val (.int xat), .val (.ref rw), .unset, .unset, .unset, .unset] [(.int (1 : Int32))]))
  refine own_Go.st (fun _ kt => XS.istoreN X0.here hx rfl (hb hby own_d_prog_62_14_2) rfl (l' := #[.val (.ref rb), .val (.int xat), .val (.ref rw), .val (.int (1 : Int32)), .unset, .unset, .unset]) rfl kt) ?_
  show own_Go p e below _ (s₁.setTop (mkF m 3 #[.val (.ref rb), .val (.int xat), .val (.ref rw), .val (.int (1 : Int32)), .unset, .unset, .unset] []))
  refine own_Go.st (fun _ kt => XS.aloadN X0.here hx rfl (hb hby own_d_prog_62_14_3) rfl rfl kt) ?_
  show own_Go p e below _ (s₁.setTop (mkF m 4 #[.val (.ref rb), .val (.int xat), .val (.ref rw), .val (.int (1 : Int32)), .unset, .unset, .unset] [(.ref rb)]))
  refine own_Go.st (fun _ kt => XS.iloadN X0.here hx rfl (hb hby own_d_prog_62_14_4) rfl kt) ?_
  show own_Go p e below _ (s₁.setTop (mkF m 5 #[.val (.ref rb), .val (.int xat), .val (.ref rw), .val (.int (1 : Int32)), .unset, .unset, .unset] [(.int xat), (.ref rb)]))
  refine own_Go.st (fun _ kt => XS.iloadN X0.here hx rfl (hb hby own_d_prog_62_14_5) rfl kt) ?_
  show own_Go p e below _ (s₁.setTop (mkF m 6 #[.val (.ref rb), .val (.int xat), .val (.ref rw), .val (.int (1 : Int32)), .unset, .unset, .unset] [(.int (1 : Int32)), (.int xat), (.ref rb)]))
  refine own_Go.st (fun _ kt => XS.iadd X0.here hx rfl (hb hby own_d_prog_62_14_6) rfl kt) ?_
  show own_Go p e below _ (s₁.setTop (mkF m 7 #[.val (.ref rb), .val (.int xat), .val (.ref rw), .val (.int (1 : Int32)), .unset, .unset, .unset] [(.int (xat + (1 : Int32))), (.ref rb)]))
  obtain ⟨u0, v0, w0, du0, dv0, dw0, dx0⟩ := own_extent ex0 le0
  refine own_Go.st (fun _ kt => own_dld X0 hx hZ e0 ab (own_addn hat (e := 1) (by decide) (by omega) (by decide)) (by omega) (v := (.double y0)) fy0 (g := (mkF m 7 #[.val (.ref rb), .val (.int xat), .val (.ref rw), .val (.int (1 : Int32)), .unset, .unset, .unset] [(.int (xat + (1 : Int32))), (.ref rb)])) rfl rfl (hb hby own_d_prog_62_14_7) _ kt) ?_
  show own_Go p e below _ (s₁.setTop (mkF m 8 #[.val (.ref rb), .val (.int xat), .val (.ref rw), .val (.int (1 : Int32)), .unset, .unset, .unset] [(.double y0)]))
  refine own_Go.st (fun _ kt => X0.ldc2DoubleC hx hown (mvT hZ (hw _ (List.mem_of_getElem? (i := 32) rfl))) (g := (mkF m 8 #[.val (.ref rb), .val (.int xat), .val (.ref rw), .val (.int (1 : Int32)), .unset, .unset, .unset] [(.double y0)])) rfl (hb hby own_d_prog_62_14_8) _ kt) ?_
  show own_Go p e below _ (s₁.setTop (mkF m 11 #[.val (.ref rb), .val (.int xat), .val (.ref rw), .val (.int (1 : Int32)), .unset, .unset, .unset] [(.double (4616189618054758400 : UInt64)), (.double y0)]))
  refine own_Go.st (fun _ kt => XS.ddivS X0.here hx rfl (hb hby own_d_prog_62_14_11) rfl (du0.n64) rfl kt) ?_
  show own_Go p e below _ (s₁.setTop (mkF m 12 #[.val (.ref rb), .val (.int xat), .val (.ref rw), .val (.int (1 : Int32)), .unset, .unset, .unset] [(.double (FP.ddiv y0 (4616189618054758400 : UInt64)))]))
  refine own_Go.st (fun _ kt => XS.aloadN X0.here hx rfl (hb hby own_d_prog_62_14_12) rfl rfl kt) ?_
  show own_Go p e below _ (s₁.setTop (mkF m 13 #[.val (.ref rb), .val (.int xat), .val (.ref rw), .val (.int (1 : Int32)), .unset, .unset, .unset] [(.ref rb), (.double (FP.ddiv y0 (4616189618054758400 : UInt64)))]))
  refine own_Go.st (fun _ kt => XS.iloadN X0.here hx rfl (hb hby own_d_prog_62_14_13) rfl kt) ?_
  show own_Go p e below _ (s₁.setTop (mkF m 14 #[.val (.ref rb), .val (.int xat), .val (.ref rw), .val (.int (1 : Int32)), .unset, .unset, .unset] [(.int xat), (.ref rb), (.double (FP.ddiv y0 (4616189618054758400 : UInt64)))]))
  refine own_Go.st (fun _ kt => own_dld X0 hx hZ e0 ab hat (by omega) (v := (.double x0)) fx0 (g := (mkF m 14 #[.val (.ref rb), .val (.int xat), .val (.ref rw), .val (.int (1 : Int32)), .unset, .unset, .unset] [(.int xat), (.ref rb), (.double (FP.ddiv y0 (4616189618054758400 : UInt64)))])) rfl rfl (hb hby own_d_prog_62_14_14) _ kt) ?_
  show own_Go p e below _ (s₁.setTop (mkF m 15 #[.val (.ref rb), .val (.int xat), .val (.ref rw), .val (.int (1 : Int32)), .unset, .unset, .unset] [(.double x0), (.double (FP.ddiv y0 (4616189618054758400 : UInt64)))]))
  refine own_Go.st (fun _ kt => X0.ldc2DoubleC hx hown (mvT hZ (hw _ (List.mem_of_getElem? (i := 32) rfl))) (g := (mkF m 15 #[.val (.ref rb), .val (.int xat), .val (.ref rw), .val (.int (1 : Int32)), .unset, .unset, .unset] [(.double x0), (.double (FP.ddiv y0 (4616189618054758400 : UInt64)))])) rfl (hb hby own_d_prog_62_14_15) _ kt) ?_
  show own_Go p e below _ (s₁.setTop (mkF m 18 #[.val (.ref rb), .val (.int xat), .val (.ref rw), .val (.int (1 : Int32)), .unset, .unset, .unset] [(.double (4616189618054758400 : UInt64)), (.double x0), (.double (FP.ddiv y0 (4616189618054758400 : UInt64)))]))
  refine own_Go.st (fun _ kt => XS.ddivS X0.here hx rfl (hb hby own_d_prog_62_14_18) rfl (dv0.n64) rfl kt) ?_
  show own_Go p e below _ (s₁.setTop (mkF m 19 #[.val (.ref rb), .val (.int xat), .val (.ref rw), .val (.int (1 : Int32)), .unset, .unset, .unset] [(.double (FP.ddiv x0 (4616189618054758400 : UInt64))), (.double (FP.ddiv y0 (4616189618054758400 : UInt64)))]))
  refine own_Go.st (fun _ kt => XS.dsubS X0.here hx rfl (hb hby own_d_prog_62_14_19) rfl (dw0.n64) rfl kt) ?_
  show own_Go p e below _ (s₁.setTop (mkF m 20 #[.val (.ref rb), .val (.int xat), .val (.ref rw), .val (.int (1 : Int32)), .unset, .unset, .unset] [(.double (FP.dsub (FP.ddiv y0 (4616189618054758400 : UInt64)) (FP.ddiv x0 (4616189618054758400 : UInt64))))]))
  refine own_Go.st (fun _ kt => XS.aloadN X0.here hx rfl (hb hby own_d_prog_62_14_20) rfl rfl kt) ?_
  show own_Go p e below _ (s₁.setTop (mkF m 21 #[.val (.ref rb), .val (.int xat), .val (.ref rw), .val (.int (1 : Int32)), .unset, .unset, .unset] [(.ref rw), (.double (FP.dsub (FP.ddiv y0 (4616189618054758400 : UInt64)) (FP.ddiv x0 (4616189618054758400 : UInt64))))]))
  refine own_Go.st (fun _ kt => XS.iconst X0.here hx rfl (hb hby own_d_prog_62_14_21) kt) ?_
  show own_Go p e below _ (s₁.setTop (mkF m 22 #[.val (.ref rb), .val (.int xat), .val (.ref rw), .val (.int (1 : Int32)), .unset, .unset, .unset] [(.int (0 : Int32)), (.ref rw), (.double (FP.dsub (FP.ddiv y0 (4616189618054758400 : UInt64)) (FP.ddiv x0 (4616189618054758400 : UInt64))))]))
  refine own_Go.st (fun _ kt => own_dld X0 hx hZ e0 aw (i := 0) (by decide) (by decide) (v := (.double z0)) fz0 (g := (mkF m 22 #[.val (.ref rb), .val (.int xat), .val (.ref rw), .val (.int (1 : Int32)), .unset, .unset, .unset] [(.int (0 : Int32)), (.ref rw), (.double (FP.dsub (FP.ddiv y0 (4616189618054758400 : UInt64)) (FP.ddiv x0 (4616189618054758400 : UInt64))))])) rfl rfl (hb hby own_d_prog_62_14_22) _ kt) ?_
  show own_Go p e below _ (s₁.setTop (mkF m 23 #[.val (.ref rb), .val (.int xat), .val (.ref rw), .val (.int (1 : Int32)), .unset, .unset, .unset] [(.double z0), (.double (FP.dsub (FP.ddiv y0 (4616189618054758400 : UInt64)) (FP.ddiv x0 (4616189618054758400 : UInt64))))]))
  refine own_Go.st (fun _ kt => XS.daddS X0.here hx rfl (hb hby own_d_prog_62_14_23) rfl (dx0.n64) rfl kt) ?_
  show own_Go p e below _ (s₁.setTop (mkF m 24 #[.val (.ref rb), .val (.int xat), .val (.ref rw), .val (.int (1 : Int32)), .unset, .unset, .unset] [(.double (FP.dadd (FP.dsub (FP.ddiv y0 (4616189618054758400 : UInt64)) (FP.ddiv x0 (4616189618054758400 : UInt64))) z0))]))
  refine own_Go.st (fun _ kt => XS.dstore X0.here hx rfl (hb hby own_d_prog_62_14_24) rfl (l' := #[.val (.ref rb), .val (.int xat), .val (.ref rw), .val (.int (1 : Int32)), .val (.double (FP.dadd (FP.dsub (FP.ddiv y0 (4616189618054758400 : UInt64)) (FP.ddiv x0 (4616189618054758400 : UInt64))) z0)), .second, .unset]) rfl kt) ?_
  show own_Go p e below _ (s₁.setTop (mkF m 26 #[.val (.ref rb), .val (.int xat), .val (.ref rw), .val (.int (1 : Int32)), .val (.double (FP.dadd (FP.dsub (FP.ddiv y0 (4616189618054758400 : UInt64)) (FP.ddiv x0 (4616189618054758400 : UInt64))) z0)), .second, .unset] []))
  refine own_Go.st (fun _ kt => XS.iconst X0.here hx rfl (hb hby own_d_prog_62_14_26) kt) ?_
  show own_Go p e below _ (s₁.setTop (mkF m 27 #[.val (.ref rb), .val (.int xat), .val (.ref rw), .val (.int (1 : Int32)), .val (.double (FP.dadd (FP.dsub (FP.ddiv y0 (4616189618054758400 : UInt64)) (FP.ddiv x0 (4616189618054758400 : UInt64))) z0)), .second, .unset] [(.int (1 : Int32))]))
  refine own_Go.st (fun _ kt => XS.istore X0.here hx rfl (hb hby own_d_prog_62_14_27) rfl (l' := #[.val (.ref rb), .val (.int xat), .val (.ref rw), .val (.int (1 : Int32)), .val (.double (FP.dadd (FP.dsub (FP.ddiv y0 (4616189618054758400 : UInt64)) (FP.ddiv x0 (4616189618054758400 : UInt64))) z0)), .second, .val (.int (1 : Int32))]) rfl kt) ?_
  show own_Go p e below _ (s₁.setTop (mkF m 29 #[.val (.ref rb), .val (.int xat), .val (.ref rw), .val (.int (1 : Int32)), .val (.double (FP.dadd (FP.dsub (FP.ddiv y0 (4616189618054758400 : UInt64)) (FP.ddiv x0 (4616189618054758400 : UInt64))) z0)), .second, .val (.int (1 : Int32))] []))
  refine own_Go.st (fun _ kt => XS.iload X0.here hx rfl (hb hby own_d_prog_62_14_29) rfl kt) ?_
  show own_Go p e below _ (s₁.setTop (mkF m 31 #[.val (.ref rb), .val (.int xat), .val (.ref rw), .val (.int (1 : Int32)), .val (.double (FP.dadd (FP.dsub (FP.ddiv y0 (4616189618054758400 : UInt64)) (FP.ddiv x0 (4616189618054758400 : UInt64))) z0)), .second, .val (.int (1 : Int32))] [(.int (1 : Int32))]))
  refine own_Go.st (fun _ kt => XS.iloadN X0.here hx rfl (hb hby own_d_prog_62_14_31) rfl kt) ?_
  show own_Go p e below _ (s₁.setTop (mkF m 32 #[.val (.ref rb), .val (.int xat), .val (.ref rw), .val (.int (1 : Int32)), .val (.double (FP.dadd (FP.dsub (FP.ddiv y0 (4616189618054758400 : UInt64)) (FP.ddiv x0 (4616189618054758400 : UInt64))) z0)), .second, .val (.int (1 : Int32))] [(.int (1 : Int32)), (.int (1 : Int32))]))
  refine own_Go.st (fun _ kt => XS.icmpYes X0.here hx rfl (pc0 := 32) (pc' := 74) rfl (hb hby own_d_prog_62_14_32) rfl (flt (by decide)).2.1 (by decide) (by decide) kt) ?_
  show own_Go p e below _ (s₁.setTop (mkF m 74 #[.val (.ref rb), .val (.int xat), .val (.ref rw), .val (.int (1 : Int32)), .val (.double (FP.dadd (FP.dsub (FP.ddiv y0 (4616189618054758400 : UInt64)) (FP.ddiv x0 (4616189618054758400 : UInt64))) z0)), .second, .val (.int (1 : Int32))] []))
  refine own_Go.st (fun _ kt => XS.dload X0.here hx rfl (hb hby own_d_prog_62_14_74) rfl kt) ?_
  show own_Go p e below _ (s₁.setTop (mkF m 76 #[.val (.ref rb), .val (.int xat), .val (.ref rw), .val (.int (1 : Int32)), .val (.double (FP.dadd (FP.dsub (FP.ddiv y0 (4616189618054758400 : UInt64)) (FP.ddiv x0 (4616189618054758400 : UInt64))) z0)), .second, .val (.int (1 : Int32))] [(.double (FP.dadd (FP.dsub (FP.ddiv y0 (4616189618054758400 : UInt64)) (FP.ddiv x0 (4616189618054758400 : UInt64))) z0))]))
  exact own_retD X0 hx Bd.notSynchronized Bd.returns (hb hby own_d_prog_62_14_76) (by decide) (by decide) ⟨_, rfl, N0, dx0, e0⟩
theorem own_ef6 (m : MethodId) (x0 : Addr) (x1 : Int32) (x2 : Addr) : entryFrame m #[(.ref x0), (.int x1), (.ref x2)] 7 = mkF m 0 #[.val (.ref x0), .val (.int x1), .val (.ref x2), .unset, .unset, .unset, .unset] [] := by first | (simp [entryFrame, mkF, argsToLocals, Value.category]; done) | rfl
theorem own_d_prog_62_14_35 : decode prog_62_method_14_code 35 = .ok (.dload 4, 2) := by decide +kernel
theorem own_d_prog_62_14_37 : decode prog_62_method_14_code 37 = .ok (.aload_n 0, 1) := by decide +kernel
theorem own_d_prog_62_14_38 : decode prog_62_method_14_code 38 = .ok (.iload_n 1, 1) := by decide +kernel
theorem own_d_prog_62_14_39 : decode prog_62_method_14_code 39 = .ok (.iload_n 3, 1) := by decide +kernel
theorem own_d_prog_62_14_40 : decode prog_62_method_14_code 40 = .ok (.iadd, 1) := by decide +kernel
theorem own_d_prog_62_14_41 : decode prog_62_method_14_code 41 = .ok (.iload 6, 2) := by decide +kernel
theorem own_d_prog_62_14_43 : decode prog_62_method_14_code 43 = .ok (.iadd, 1) := by decide +kernel
theorem own_d_prog_62_14_44 : decode prog_62_method_14_code 44 = .ok (.daload, 1) := by decide +kernel
theorem own_d_prog_62_14_45 : decode prog_62_method_14_code 45 = .ok (.ldc2_w 201, 3) := by decide +kernel
theorem own_d_prog_62_14_48 : decode prog_62_method_14_code 48 = .ok (.ddiv, 1) := by decide +kernel
theorem own_d_prog_62_14_49 : decode prog_62_method_14_code 49 = .ok (.aload_n 0, 1) := by decide +kernel
theorem own_d_prog_62_14_50 : decode prog_62_method_14_code 50 = .ok (.iload_n 1, 1) := by decide +kernel
theorem own_d_prog_62_14_51 : decode prog_62_method_14_code 51 = .ok (.iload 6, 2) := by decide +kernel
theorem own_d_prog_62_14_53 : decode prog_62_method_14_code 53 = .ok (.iadd, 1) := by decide +kernel
theorem own_d_prog_62_14_54 : decode prog_62_method_14_code 54 = .ok (.daload, 1) := by decide +kernel
theorem own_d_prog_62_14_55 : decode prog_62_method_14_code 55 = .ok (.ldc2_w 201, 3) := by decide +kernel
theorem own_d_prog_62_14_58 : decode prog_62_method_14_code 58 = .ok (.ddiv, 1) := by decide +kernel
theorem own_d_prog_62_14_59 : decode prog_62_method_14_code 59 = .ok (.dsub, 1) := by decide +kernel
theorem own_d_prog_62_14_60 : decode prog_62_method_14_code 60 = .ok (.aload_n 2, 1) := by decide +kernel
theorem own_d_prog_62_14_61 : decode prog_62_method_14_code 61 = .ok (.iload 6, 2) := by decide +kernel
theorem own_d_prog_62_14_63 : decode prog_62_method_14_code 63 = .ok (.daload, 1) := by decide +kernel
theorem own_d_prog_62_14_64 : decode prog_62_method_14_code 64 = .ok (.dadd, 1) := by decide +kernel
theorem own_d_prog_62_14_65 : decode prog_62_method_14_code 65 = .ok (.dmul, 1) := by decide +kernel
theorem own_d_prog_62_14_66 : decode prog_62_method_14_code 66 = .ok (.dstore 4, 2) := by decide +kernel
theorem own_d_prog_62_14_68 : decode prog_62_method_14_code 68 = .ok (.iinc 6 1, 3) := by decide +kernel
theorem own_d_prog_62_14_71 : decode prog_62_method_14_code 71 = .ok (.goto (-42), 3) := by decide +kernel
def own_Q_own_gv2 (Z : State) (rb : Addr) (xat : Int32) (rw : Addr) (ia : Nat) (fb fw : Nat → Value) (x0 y0 z0 : UInt64) (G0 : Int) (E0 : Nat) (x1 y1 z1 : UInt64) (G1 : Int) (E1 : Nat) (D1 : Nat) (h0 : Heap) (n0 : Nat) (v : Option Value) (h : Heap) (L : List Loc) : Prop := ∃ d, v = some (.double d) ∧ Fr n0 L ∧ own_D d (G0 * G1 * ((2 ^ D1 : Nat) : Int)) ∧ h = h0
set_option maxRecDepth 65536 in
set_option maxHeartbeats 40000000 in
theorem own_gv2 (l : Launch) (Z : State) (a0 : Array Value) (hw : ∀ d ∈ tables_1, d.before a0 Z = true) (ws : List Jvm.Cond) (rb : Addr) (xat : Int32) (rw : Addr) (ia : Nat) (fb fw : Nat → Value) (x0 y0 z0 : UInt64) (G0 : Int) (E0 : Nat) (x1 y1 z1 : UInt64) (G1 : Int) (E1 : Nat) (D1 : Nat) (h0 : Heap) (n0 : Nat) (Z0 : n0 ≤ h0.size) (ab : own_Ar Z h0 rb .double 10 fb) (aw : own_Ar Z h0 rw .double 2 fw) (hat : xat.toInt = (ia : Int)) (la : ia < 4) (ex0 : own_ext x0 y0 z0 G0 E0) (le0 : E0 ≤ 2081) (fx0 : fb (ia + 0) = .double x0) (fy0 : fb (ia + 2 + 0) = .double y0) (fz0 : fw 0 = .double z0) (ex1 : own_ext x1 y1 z1 G1 E1) (le1 : E1 ≤ 2081) (fx1 : fb (ia + 1) = .double x1) (fy1 : fb (ia + 2 + 1) = .double y1) (fz1 : fw 1 = .double z1) (hD1 : E0 + E1 = D1 + 1074) (r1 : own_Rep (G0 * G1 * ((2 ^ D1 : Nat) : Int))) :
    MetFree l (⟨"com/example/thicket/thicket/PackedLevel", "grownVolume", "([DI[D)D"⟩ : MethodName) (head1 (Jvm.Cond.code (⟨"com/example/thicket/thicket/PackedLevel", "grownVolume", "([DI[D)D"⟩ : MethodName) prog_62_method_14_code 7 (some .double) :: ws) ({ frames := 0, cells := 0, slots := 0, locals := 0 } : Room)) (fun av_ U => av_ = #[(.ref rb), (.int xat), (.ref rw)] ∧ Z.Warmed39 U.vm ∧ U.heap = h0) (fun _ _ _ _ _ => True) (fun _ U o U' => ∃ v L, o = .returned v ∧ own_Q_own_gv2 Z rb xat rw ia fb fw x0 y0 z0 G0 E0 x1 y1 z1 G1 E1 D1 h0 n0 v U'.heap L ∧ FrameEnd U o U' L ({ frames := 0, cells := 0, slots := 0, locals := 0 } : Room).cells ({ frames := 0, cells := 0, slots := 0, locals := 0 } : Room).slots) := by
  refine MetFree.of_bodySF (plainFor_of_name own_pn1) hisR ?_
  intro p e s m args below meth c s₁ Bd hml0 hP hK
  obtain ⟨rfl, hZ, hh⟩ := hP
  have hx := Bd.exec
  have hby := Bd.bytes
  have hml : c.maxLocals = 7 := hml0
  have hown : s.vm.findClass "com/example/thicket/thicket/PackedLevel" = some m.cls := findClass_of_methodNamed Bd.named
  have hnm := (name_of_methodNamed Bd.named Bd.method).1
  have X0 : Stand p l e ({ frames := 0, cells := 0, slots := 0, locals := 0 } : Room) s m #[(.ref rb), (.int xat), (.ref rw)] below meth c s₁ [] 0 0 := Stand.of_body Bd
  have e0 : s₁.heap = h0 := by rw [← hh, Bd.state]; rfl
  have N0 := Fr.nil n0
  suffices hgo : own_Go p e below (fun o U' => ∃ v L, o = .returned v ∧ own_Q_own_gv2 Z rb xat rw ia fb fw x0 y0 z0 G0 E0 x1 y1 z1 G1 E1 D1 h0 n0 v U'.heap L ∧ FrameEnd s o U' L ({ frames := 0, cells := 0, slots := 0, locals := 0 } : Room).cells ({ frames := 0, cells := 0, slots := 0, locals := 0 } : Room).slots) (s₁.setTop (mkF m 0 #[.val (.ref rb), .val (.int xat), .val (.ref rw), .unset, .unset, .unset, .unset] [])) by
    obtain ⟨s₂, o, h1, h2, h3, h4⟩ := hgo
    exact ⟨s₂, o, castTop (own_ef6 m rb xat rw) h1, h2, h3, h4⟩
  show own_Go p e below _ (s₁.setTop (mkF m 0 #[.val (.ref rb), .val (.int xat), .val (.ref rw), .unset, .unset, .unset, .unset] []))
  refine own_Go.st (fun _ kt => XS.aloadN X0.here hx rfl (hb hby own_d_prog_62_14_0) rfl rfl kt) ?_
  show own_Go p e below _ (s₁.setTop (mkF m 1 #[.val (.ref rb), .val (.int xat), .val (.ref rw), .unset, .unset, .unset, .unset] [(.ref rw)]))
  refine own_Go.st (fun _ kt => own_alen X0 hx hZ e0 aw (z := (2 : Int32)) (by decide) (g := (mkF m 1 #[.val (.ref rb), .val (.int xat), .val (.ref rw), .unset, .unset, .unset, .unset] [(.ref rw)])) rfl rfl (hb hby own_d_prog_62_14_1) _ kt) ?_
  show own_Go p e below _ (s₁.setTop (mkF m 2 #[.val (.ref rb), .val (.int xat), .val (.ref rw), .unset, .unset, .unset, .unset] [(.int (2 : Int32))]))
  refine own_Go.st (fun _ kt => XS.istoreN X0.here hx rfl (hb hby own_d_prog_62_14_2) rfl (l' := #[.val (.ref rb), .val (.int xat), .val (.ref rw), .val (.int (2 : Int32)), .unset, .unset, .unset]) rfl kt) ?_
  show own_Go p e below _ (s₁.setTop (mkF m 3 #[.val (.ref rb), .val (.int xat), .val (.ref rw), .val (.int (2 : Int32)), .unset, .unset, .unset] []))
  refine own_Go.st (fun _ kt => XS.aloadN X0.here hx rfl (hb hby own_d_prog_62_14_3) rfl rfl kt) ?_
  show own_Go p e below _ (s₁.setTop (mkF m 4 #[.val (.ref rb), .val (.int xat), .val (.ref rw), .val (.int (2 : Int32)), .unset, .unset, .unset] [(.ref rb)]))
  refine own_Go.st (fun _ kt => XS.iloadN X0.here hx rfl (hb hby own_d_prog_62_14_4) rfl kt) ?_
  show own_Go p e below _ (s₁.setTop (mkF m 5 #[.val (.ref rb), .val (.int xat), .val (.ref rw), .val (.int (2 : Int32)), .unset, .unset, .unset] [(.int xat), (.ref rb)]))
  refine own_Go.st (fun _ kt => XS.iloadN X0.here hx rfl (hb hby own_d_prog_62_14_5) rfl kt) ?_
  show own_Go p e below _ (s₁.setTop (mkF m 6 #[.val (.ref rb), .val (.int xat), .val (.ref rw), .val (.int (2 : Int32)), .unset, .unset, .unset] [(.int (2 : Int32)), (.int xat), (.ref rb)]))
  refine own_Go.st (fun _ kt => XS.iadd X0.here hx rfl (hb hby own_d_prog_62_14_6) rfl kt) ?_
  show own_Go p e below _ (s₁.setTop (mkF m 7 #[.val (.ref rb), .val (.int xat), .val (.ref rw), .val (.int (2 : Int32)), .unset, .unset, .unset] [(.int (xat + (2 : Int32))), (.ref rb)]))
  obtain ⟨u0, v0, w0, du0, dv0, dw0, dx0⟩ := own_extent ex0 le0
  refine own_Go.st (fun _ kt => own_dld X0 hx hZ e0 ab (own_addn hat (e := 2) (by decide) (by omega) (by decide)) (by omega) (v := (.double y0)) fy0 (g := (mkF m 7 #[.val (.ref rb), .val (.int xat), .val (.ref rw), .val (.int (2 : Int32)), .unset, .unset, .unset] [(.int (xat + (2 : Int32))), (.ref rb)])) rfl rfl (hb hby own_d_prog_62_14_7) _ kt) ?_
  show own_Go p e below _ (s₁.setTop (mkF m 8 #[.val (.ref rb), .val (.int xat), .val (.ref rw), .val (.int (2 : Int32)), .unset, .unset, .unset] [(.double y0)]))
  refine own_Go.st (fun _ kt => X0.ldc2DoubleC hx hown (mvT hZ (hw _ (List.mem_of_getElem? (i := 32) rfl))) (g := (mkF m 8 #[.val (.ref rb), .val (.int xat), .val (.ref rw), .val (.int (2 : Int32)), .unset, .unset, .unset] [(.double y0)])) rfl (hb hby own_d_prog_62_14_8) _ kt) ?_
  show own_Go p e below _ (s₁.setTop (mkF m 11 #[.val (.ref rb), .val (.int xat), .val (.ref rw), .val (.int (2 : Int32)), .unset, .unset, .unset] [(.double (4616189618054758400 : UInt64)), (.double y0)]))
  refine own_Go.st (fun _ kt => XS.ddivS X0.here hx rfl (hb hby own_d_prog_62_14_11) rfl (du0.n64) rfl kt) ?_
  show own_Go p e below _ (s₁.setTop (mkF m 12 #[.val (.ref rb), .val (.int xat), .val (.ref rw), .val (.int (2 : Int32)), .unset, .unset, .unset] [(.double (FP.ddiv y0 (4616189618054758400 : UInt64)))]))
  refine own_Go.st (fun _ kt => XS.aloadN X0.here hx rfl (hb hby own_d_prog_62_14_12) rfl rfl kt) ?_
  show own_Go p e below _ (s₁.setTop (mkF m 13 #[.val (.ref rb), .val (.int xat), .val (.ref rw), .val (.int (2 : Int32)), .unset, .unset, .unset] [(.ref rb), (.double (FP.ddiv y0 (4616189618054758400 : UInt64)))]))
  refine own_Go.st (fun _ kt => XS.iloadN X0.here hx rfl (hb hby own_d_prog_62_14_13) rfl kt) ?_
  show own_Go p e below _ (s₁.setTop (mkF m 14 #[.val (.ref rb), .val (.int xat), .val (.ref rw), .val (.int (2 : Int32)), .unset, .unset, .unset] [(.int xat), (.ref rb), (.double (FP.ddiv y0 (4616189618054758400 : UInt64)))]))
  refine own_Go.st (fun _ kt => own_dld X0 hx hZ e0 ab hat (by omega) (v := (.double x0)) fx0 (g := (mkF m 14 #[.val (.ref rb), .val (.int xat), .val (.ref rw), .val (.int (2 : Int32)), .unset, .unset, .unset] [(.int xat), (.ref rb), (.double (FP.ddiv y0 (4616189618054758400 : UInt64)))])) rfl rfl (hb hby own_d_prog_62_14_14) _ kt) ?_
  show own_Go p e below _ (s₁.setTop (mkF m 15 #[.val (.ref rb), .val (.int xat), .val (.ref rw), .val (.int (2 : Int32)), .unset, .unset, .unset] [(.double x0), (.double (FP.ddiv y0 (4616189618054758400 : UInt64)))]))
  refine own_Go.st (fun _ kt => X0.ldc2DoubleC hx hown (mvT hZ (hw _ (List.mem_of_getElem? (i := 32) rfl))) (g := (mkF m 15 #[.val (.ref rb), .val (.int xat), .val (.ref rw), .val (.int (2 : Int32)), .unset, .unset, .unset] [(.double x0), (.double (FP.ddiv y0 (4616189618054758400 : UInt64)))])) rfl (hb hby own_d_prog_62_14_15) _ kt) ?_
  show own_Go p e below _ (s₁.setTop (mkF m 18 #[.val (.ref rb), .val (.int xat), .val (.ref rw), .val (.int (2 : Int32)), .unset, .unset, .unset] [(.double (4616189618054758400 : UInt64)), (.double x0), (.double (FP.ddiv y0 (4616189618054758400 : UInt64)))]))
  refine own_Go.st (fun _ kt => XS.ddivS X0.here hx rfl (hb hby own_d_prog_62_14_18) rfl (dv0.n64) rfl kt) ?_
  show own_Go p e below _ (s₁.setTop (mkF m 19 #[.val (.ref rb), .val (.int xat), .val (.ref rw), .val (.int (2 : Int32)), .unset, .unset, .unset] [(.double (FP.ddiv x0 (4616189618054758400 : UInt64))), (.double (FP.ddiv y0 (4616189618054758400 : UInt64)))]))
  refine own_Go.st (fun _ kt => XS.dsubS X0.here hx rfl (hb hby own_d_prog_62_14_19) rfl (dw0.n64) rfl kt) ?_
  show own_Go p e below _ (s₁.setTop (mkF m 20 #[.val (.ref rb), .val (.int xat), .val (.ref rw), .val (.int (2 : Int32)), .unset, .unset, .unset] [(.double (FP.dsub (FP.ddiv y0 (4616189618054758400 : UInt64)) (FP.ddiv x0 (4616189618054758400 : UInt64))))]))
  refine own_Go.st (fun _ kt => XS.aloadN X0.here hx rfl (hb hby own_d_prog_62_14_20) rfl rfl kt) ?_
  show own_Go p e below _ (s₁.setTop (mkF m 21 #[.val (.ref rb), .val (.int xat), .val (.ref rw), .val (.int (2 : Int32)), .unset, .unset, .unset] [(.ref rw), (.double (FP.dsub (FP.ddiv y0 (4616189618054758400 : UInt64)) (FP.ddiv x0 (4616189618054758400 : UInt64))))]))
  refine own_Go.st (fun _ kt => XS.iconst X0.here hx rfl (hb hby own_d_prog_62_14_21) kt) ?_
  show own_Go p e below _ (s₁.setTop (mkF m 22 #[.val (.ref rb), .val (.int xat), .val (.ref rw), .val (.int (2 : Int32)), .unset, .unset, .unset] [(.int (0 : Int32)), (.ref rw), (.double (FP.dsub (FP.ddiv y0 (4616189618054758400 : UInt64)) (FP.ddiv x0 (4616189618054758400 : UInt64))))]))
  refine own_Go.st (fun _ kt => own_dld X0 hx hZ e0 aw (i := 0) (by decide) (by decide) (v := (.double z0)) fz0 (g := (mkF m 22 #[.val (.ref rb), .val (.int xat), .val (.ref rw), .val (.int (2 : Int32)), .unset, .unset, .unset] [(.int (0 : Int32)), (.ref rw), (.double (FP.dsub (FP.ddiv y0 (4616189618054758400 : UInt64)) (FP.ddiv x0 (4616189618054758400 : UInt64))))])) rfl rfl (hb hby own_d_prog_62_14_22) _ kt) ?_
  show own_Go p e below _ (s₁.setTop (mkF m 23 #[.val (.ref rb), .val (.int xat), .val (.ref rw), .val (.int (2 : Int32)), .unset, .unset, .unset] [(.double z0), (.double (FP.dsub (FP.ddiv y0 (4616189618054758400 : UInt64)) (FP.ddiv x0 (4616189618054758400 : UInt64))))]))
  refine own_Go.st (fun _ kt => XS.daddS X0.here hx rfl (hb hby own_d_prog_62_14_23) rfl (dx0.n64) rfl kt) ?_
  show own_Go p e below _ (s₁.setTop (mkF m 24 #[.val (.ref rb), .val (.int xat), .val (.ref rw), .val (.int (2 : Int32)), .unset, .unset, .unset] [(.double (FP.dadd (FP.dsub (FP.ddiv y0 (4616189618054758400 : UInt64)) (FP.ddiv x0 (4616189618054758400 : UInt64))) z0))]))
  refine own_Go.st (fun _ kt => XS.dstore X0.here hx rfl (hb hby own_d_prog_62_14_24) rfl (l' := #[.val (.ref rb), .val (.int xat), .val (.ref rw), .val (.int (2 : Int32)), .val (.double (FP.dadd (FP.dsub (FP.ddiv y0 (4616189618054758400 : UInt64)) (FP.ddiv x0 (4616189618054758400 : UInt64))) z0)), .second, .unset]) rfl kt) ?_
  show own_Go p e below _ (s₁.setTop (mkF m 26 #[.val (.ref rb), .val (.int xat), .val (.ref rw), .val (.int (2 : Int32)), .val (.double (FP.dadd (FP.dsub (FP.ddiv y0 (4616189618054758400 : UInt64)) (FP.ddiv x0 (4616189618054758400 : UInt64))) z0)), .second, .unset] []))
  refine own_Go.st (fun _ kt => XS.iconst X0.here hx rfl (hb hby own_d_prog_62_14_26) kt) ?_
  show own_Go p e below _ (s₁.setTop (mkF m 27 #[.val (.ref rb), .val (.int xat), .val (.ref rw), .val (.int (2 : Int32)), .val (.double (FP.dadd (FP.dsub (FP.ddiv y0 (4616189618054758400 : UInt64)) (FP.ddiv x0 (4616189618054758400 : UInt64))) z0)), .second, .unset] [(.int (1 : Int32))]))
  refine own_Go.st (fun _ kt => XS.istore X0.here hx rfl (hb hby own_d_prog_62_14_27) rfl (l' := #[.val (.ref rb), .val (.int xat), .val (.ref rw), .val (.int (2 : Int32)), .val (.double (FP.dadd (FP.dsub (FP.ddiv y0 (4616189618054758400 : UInt64)) (FP.ddiv x0 (4616189618054758400 : UInt64))) z0)), .second, .val (.int (1 : Int32))]) rfl kt) ?_
  show own_Go p e below _ (s₁.setTop (mkF m 29 #[.val (.ref rb), .val (.int xat), .val (.ref rw), .val (.int (2 : Int32)), .val (.double (FP.dadd (FP.dsub (FP.ddiv y0 (4616189618054758400 : UInt64)) (FP.ddiv x0 (4616189618054758400 : UInt64))) z0)), .second, .val (.int (1 : Int32))] []))
  refine own_Go.st (fun _ kt => XS.iload X0.here hx rfl (hb hby own_d_prog_62_14_29) rfl kt) ?_
  show own_Go p e below _ (s₁.setTop (mkF m 31 #[.val (.ref rb), .val (.int xat), .val (.ref rw), .val (.int (2 : Int32)), .val (.double (FP.dadd (FP.dsub (FP.ddiv y0 (4616189618054758400 : UInt64)) (FP.ddiv x0 (4616189618054758400 : UInt64))) z0)), .second, .val (.int (1 : Int32))] [(.int (1 : Int32))]))
  refine own_Go.st (fun _ kt => XS.iloadN X0.here hx rfl (hb hby own_d_prog_62_14_31) rfl kt) ?_
  show own_Go p e below _ (s₁.setTop (mkF m 32 #[.val (.ref rb), .val (.int xat), .val (.ref rw), .val (.int (2 : Int32)), .val (.double (FP.dadd (FP.dsub (FP.ddiv y0 (4616189618054758400 : UInt64)) (FP.ddiv x0 (4616189618054758400 : UInt64))) z0)), .second, .val (.int (1 : Int32))] [(.int (2 : Int32)), (.int (1 : Int32))]))
  refine own_Go.st (fun _ kt => XS.icmpNo X0.here hx rfl (hb hby own_d_prog_62_14_32) rfl (tlt (by decide)).2.1 kt) ?_
  show own_Go p e below _ (s₁.setTop (mkF m 35 #[.val (.ref rb), .val (.int xat), .val (.ref rw), .val (.int (2 : Int32)), .val (.double (FP.dadd (FP.dsub (FP.ddiv y0 (4616189618054758400 : UInt64)) (FP.ddiv x0 (4616189618054758400 : UInt64))) z0)), .second, .val (.int (1 : Int32))] []))
  refine own_Go.st (fun _ kt => XS.dload X0.here hx rfl (hb hby own_d_prog_62_14_35) rfl kt) ?_
  show own_Go p e below _ (s₁.setTop (mkF m 37 #[.val (.ref rb), .val (.int xat), .val (.ref rw), .val (.int (2 : Int32)), .val (.double (FP.dadd (FP.dsub (FP.ddiv y0 (4616189618054758400 : UInt64)) (FP.ddiv x0 (4616189618054758400 : UInt64))) z0)), .second, .val (.int (1 : Int32))] [(.double (FP.dadd (FP.dsub (FP.ddiv y0 (4616189618054758400 : UInt64)) (FP.ddiv x0 (4616189618054758400 : UInt64))) z0))]))
  refine own_Go.st (fun _ kt => XS.aloadN X0.here hx rfl (hb hby own_d_prog_62_14_37) rfl rfl kt) ?_
  show own_Go p e below _ (s₁.setTop (mkF m 38 #[.val (.ref rb), .val (.int xat), .val (.ref rw), .val (.int (2 : Int32)), .val (.double (FP.dadd (FP.dsub (FP.ddiv y0 (4616189618054758400 : UInt64)) (FP.ddiv x0 (4616189618054758400 : UInt64))) z0)), .second, .val (.int (1 : Int32))] [(.ref rb), (.double (FP.dadd (FP.dsub (FP.ddiv y0 (4616189618054758400 : UInt64)) (FP.ddiv x0 (4616189618054758400 : UInt64))) z0))]))
  refine own_Go.st (fun _ kt => XS.iloadN X0.here hx rfl (hb hby own_d_prog_62_14_38) rfl kt) ?_
  show own_Go p e below _ (s₁.setTop (mkF m 39 #[.val (.ref rb), .val (.int xat), .val (.ref rw), .val (.int (2 : Int32)), .val (.double (FP.dadd (FP.dsub (FP.ddiv y0 (4616189618054758400 : UInt64)) (FP.ddiv x0 (4616189618054758400 : UInt64))) z0)), .second, .val (.int (1 : Int32))] [(.int xat), (.ref rb), (.double (FP.dadd (FP.dsub (FP.ddiv y0 (4616189618054758400 : UInt64)) (FP.ddiv x0 (4616189618054758400 : UInt64))) z0))]))
  refine own_Go.st (fun _ kt => XS.iloadN X0.here hx rfl (hb hby own_d_prog_62_14_39) rfl kt) ?_
  show own_Go p e below _ (s₁.setTop (mkF m 40 #[.val (.ref rb), .val (.int xat), .val (.ref rw), .val (.int (2 : Int32)), .val (.double (FP.dadd (FP.dsub (FP.ddiv y0 (4616189618054758400 : UInt64)) (FP.ddiv x0 (4616189618054758400 : UInt64))) z0)), .second, .val (.int (1 : Int32))] [(.int (2 : Int32)), (.int xat), (.ref rb), (.double (FP.dadd (FP.dsub (FP.ddiv y0 (4616189618054758400 : UInt64)) (FP.ddiv x0 (4616189618054758400 : UInt64))) z0))]))
  refine own_Go.st (fun _ kt => XS.iadd X0.here hx rfl (hb hby own_d_prog_62_14_40) rfl kt) ?_
  show own_Go p e below _ (s₁.setTop (mkF m 41 #[.val (.ref rb), .val (.int xat), .val (.ref rw), .val (.int (2 : Int32)), .val (.double (FP.dadd (FP.dsub (FP.ddiv y0 (4616189618054758400 : UInt64)) (FP.ddiv x0 (4616189618054758400 : UInt64))) z0)), .second, .val (.int (1 : Int32))] [(.int (xat + (2 : Int32))), (.ref rb), (.double (FP.dadd (FP.dsub (FP.ddiv y0 (4616189618054758400 : UInt64)) (FP.ddiv x0 (4616189618054758400 : UInt64))) z0))]))
  refine own_Go.st (fun _ kt => XS.iload X0.here hx rfl (hb hby own_d_prog_62_14_41) rfl kt) ?_
  show own_Go p e below _ (s₁.setTop (mkF m 43 #[.val (.ref rb), .val (.int xat), .val (.ref rw), .val (.int (2 : Int32)), .val (.double (FP.dadd (FP.dsub (FP.ddiv y0 (4616189618054758400 : UInt64)) (FP.ddiv x0 (4616189618054758400 : UInt64))) z0)), .second, .val (.int (1 : Int32))] [(.int (1 : Int32)), (.int (xat + (2 : Int32))), (.ref rb), (.double (FP.dadd (FP.dsub (FP.ddiv y0 (4616189618054758400 : UInt64)) (FP.ddiv x0 (4616189618054758400 : UInt64))) z0))]))
  refine own_Go.st (fun _ kt => XS.iadd X0.here hx rfl (hb hby own_d_prog_62_14_43) rfl kt) ?_
  show own_Go p e below _ (s₁.setTop (mkF m 44 #[.val (.ref rb), .val (.int xat), .val (.ref rw), .val (.int (2 : Int32)), .val (.double (FP.dadd (FP.dsub (FP.ddiv y0 (4616189618054758400 : UInt64)) (FP.ddiv x0 (4616189618054758400 : UInt64))) z0)), .second, .val (.int (1 : Int32))] [(.int ((xat + (2 : Int32)) + (1 : Int32))), (.ref rb), (.double (FP.dadd (FP.dsub (FP.ddiv y0 (4616189618054758400 : UInt64)) (FP.ddiv x0 (4616189618054758400 : UInt64))) z0))]))
  obtain ⟨u1, v1, w1, du1, dv1, dw1, dx1⟩ := own_extent ex1 le1
  refine own_Go.st (fun _ kt => own_dld X0 hx hZ e0 ab (own_addn (own_addn hat (e := 2) (by decide) (by omega) (by decide)) (e := 1) (by decide) (by omega) (by decide)) (by omega) (v := (.double y1)) fy1 (g := (mkF m 44 #[.val (.ref rb), .val (.int xat), .val (.ref rw), .val (.int (2 : Int32)), .val (.double (FP.dadd (FP.dsub (FP.ddiv y0 (4616189618054758400 : UInt64)) (FP.ddiv x0 (4616189618054758400 : UInt64))) z0)), .second, .val (.int (1 : Int32))] [(.int ((xat + (2 : Int32)) + (1 : Int32))), (.ref rb), (.double (FP.dadd (FP.dsub (FP.ddiv y0 (4616189618054758400 : UInt64)) (FP.ddiv x0 (4616189618054758400 : UInt64))) z0))])) rfl rfl (hb hby own_d_prog_62_14_44) _ kt) ?_
  show own_Go p e below _ (s₁.setTop (mkF m 45 #[.val (.ref rb), .val (.int xat), .val (.ref rw), .val (.int (2 : Int32)), .val (.double (FP.dadd (FP.dsub (FP.ddiv y0 (4616189618054758400 : UInt64)) (FP.ddiv x0 (4616189618054758400 : UInt64))) z0)), .second, .val (.int (1 : Int32))] [(.double y1), (.double (FP.dadd (FP.dsub (FP.ddiv y0 (4616189618054758400 : UInt64)) (FP.ddiv x0 (4616189618054758400 : UInt64))) z0))]))
  refine own_Go.st (fun _ kt => X0.ldc2DoubleC hx hown (mvT hZ (hw _ (List.mem_of_getElem? (i := 32) rfl))) (g := (mkF m 45 #[.val (.ref rb), .val (.int xat), .val (.ref rw), .val (.int (2 : Int32)), .val (.double (FP.dadd (FP.dsub (FP.ddiv y0 (4616189618054758400 : UInt64)) (FP.ddiv x0 (4616189618054758400 : UInt64))) z0)), .second, .val (.int (1 : Int32))] [(.double y1), (.double (FP.dadd (FP.dsub (FP.ddiv y0 (4616189618054758400 : UInt64)) (FP.ddiv x0 (4616189618054758400 : UInt64))) z0))])) rfl (hb hby own_d_prog_62_14_45) _ kt) ?_
  show own_Go p e below _ (s₁.setTop (mkF m 48 #[.val (.ref rb), .val (.int xat), .val (.ref rw), .val (.int (2 : Int32)), .val (.double (FP.dadd (FP.dsub (FP.ddiv y0 (4616189618054758400 : UInt64)) (FP.ddiv x0 (4616189618054758400 : UInt64))) z0)), .second, .val (.int (1 : Int32))] [(.double (4616189618054758400 : UInt64)), (.double y1), (.double (FP.dadd (FP.dsub (FP.ddiv y0 (4616189618054758400 : UInt64)) (FP.ddiv x0 (4616189618054758400 : UInt64))) z0))]))
  refine own_Go.st (fun _ kt => XS.ddivS X0.here hx rfl (hb hby own_d_prog_62_14_48) rfl (du1.n64) rfl kt) ?_
  show own_Go p e below _ (s₁.setTop (mkF m 49 #[.val (.ref rb), .val (.int xat), .val (.ref rw), .val (.int (2 : Int32)), .val (.double (FP.dadd (FP.dsub (FP.ddiv y0 (4616189618054758400 : UInt64)) (FP.ddiv x0 (4616189618054758400 : UInt64))) z0)), .second, .val (.int (1 : Int32))] [(.double (FP.ddiv y1 (4616189618054758400 : UInt64))), (.double (FP.dadd (FP.dsub (FP.ddiv y0 (4616189618054758400 : UInt64)) (FP.ddiv x0 (4616189618054758400 : UInt64))) z0))]))
  refine own_Go.st (fun _ kt => XS.aloadN X0.here hx rfl (hb hby own_d_prog_62_14_49) rfl rfl kt) ?_
  show own_Go p e below _ (s₁.setTop (mkF m 50 #[.val (.ref rb), .val (.int xat), .val (.ref rw), .val (.int (2 : Int32)), .val (.double (FP.dadd (FP.dsub (FP.ddiv y0 (4616189618054758400 : UInt64)) (FP.ddiv x0 (4616189618054758400 : UInt64))) z0)), .second, .val (.int (1 : Int32))] [(.ref rb), (.double (FP.ddiv y1 (4616189618054758400 : UInt64))), (.double (FP.dadd (FP.dsub (FP.ddiv y0 (4616189618054758400 : UInt64)) (FP.ddiv x0 (4616189618054758400 : UInt64))) z0))]))
  refine own_Go.st (fun _ kt => XS.iloadN X0.here hx rfl (hb hby own_d_prog_62_14_50) rfl kt) ?_
  show own_Go p e below _ (s₁.setTop (mkF m 51 #[.val (.ref rb), .val (.int xat), .val (.ref rw), .val (.int (2 : Int32)), .val (.double (FP.dadd (FP.dsub (FP.ddiv y0 (4616189618054758400 : UInt64)) (FP.ddiv x0 (4616189618054758400 : UInt64))) z0)), .second, .val (.int (1 : Int32))] [(.int xat), (.ref rb), (.double (FP.ddiv y1 (4616189618054758400 : UInt64))), (.double (FP.dadd (FP.dsub (FP.ddiv y0 (4616189618054758400 : UInt64)) (FP.ddiv x0 (4616189618054758400 : UInt64))) z0))]))
  refine own_Go.st (fun _ kt => XS.iload X0.here hx rfl (hb hby own_d_prog_62_14_51) rfl kt) ?_
  show own_Go p e below _ (s₁.setTop (mkF m 53 #[.val (.ref rb), .val (.int xat), .val (.ref rw), .val (.int (2 : Int32)), .val (.double (FP.dadd (FP.dsub (FP.ddiv y0 (4616189618054758400 : UInt64)) (FP.ddiv x0 (4616189618054758400 : UInt64))) z0)), .second, .val (.int (1 : Int32))] [(.int (1 : Int32)), (.int xat), (.ref rb), (.double (FP.ddiv y1 (4616189618054758400 : UInt64))), (.double (FP.dadd (FP.dsub (FP.ddiv y0 (4616189618054758400 : UInt64)) (FP.ddiv x0 (4616189618054758400 : UInt64))) z0))]))
  refine own_Go.st (fun _ kt => XS.iadd X0.here hx rfl (hb hby own_d_prog_62_14_53) rfl kt) ?_
  show own_Go p e below _ (s₁.setTop (mkF m 54 #[.val (.ref rb), .val (.int xat), .val (.ref rw), .val (.int (2 : Int32)), .val (.double (FP.dadd (FP.dsub (FP.ddiv y0 (4616189618054758400 : UInt64)) (FP.ddiv x0 (4616189618054758400 : UInt64))) z0)), .second, .val (.int (1 : Int32))] [(.int (xat + (1 : Int32))), (.ref rb), (.double (FP.ddiv y1 (4616189618054758400 : UInt64))), (.double (FP.dadd (FP.dsub (FP.ddiv y0 (4616189618054758400 : UInt64)) (FP.ddiv x0 (4616189618054758400 : UInt64))) z0))]))
  refine own_Go.st (fun _ kt => own_dld X0 hx hZ e0 ab (own_addn hat (e := 1) (by decide) (by omega) (by decide)) (by omega) (v := (.double x1)) fx1 (g := (mkF m 54 #[.val (.ref rb), .val (.int xat), .val (.ref rw), .val (.int (2 : Int32)), .val (.double (FP.dadd (FP.dsub (FP.ddiv y0 (4616189618054758400 : UInt64)) (FP.ddiv x0 (4616189618054758400 : UInt64))) z0)), .second, .val (.int (1 : Int32))] [(.int (xat + (1 : Int32))), (.ref rb), (.double (FP.ddiv y1 (4616189618054758400 : UInt64))), (.double (FP.dadd (FP.dsub (FP.ddiv y0 (4616189618054758400 : UInt64)) (FP.ddiv x0 (4616189618054758400 : UInt64))) z0))])) rfl rfl (hb hby own_d_prog_62_14_54) _ kt) ?_
  show own_Go p e below _ (s₁.setTop (mkF m 55 #[.val (.ref rb), .val (.int xat), .val (.ref rw), .val (.int (2 : Int32)), .val (.double (FP.dadd (FP.dsub (FP.ddiv y0 (4616189618054758400 : UInt64)) (FP.ddiv x0 (4616189618054758400 : UInt64))) z0)), .second, .val (.int (1 : Int32))] [(.double x1), (.double (FP.ddiv y1 (4616189618054758400 : UInt64))), (.double (FP.dadd (FP.dsub (FP.ddiv y0 (4616189618054758400 : UInt64)) (FP.ddiv x0 (4616189618054758400 : UInt64))) z0))]))
  refine own_Go.st (fun _ kt => X0.ldc2DoubleC hx hown (mvT hZ (hw _ (List.mem_of_getElem? (i := 32) rfl))) (g := (mkF m 55 #[.val (.ref rb), .val (.int xat), .val (.ref rw), .val (.int (2 : Int32)), .val (.double (FP.dadd (FP.dsub (FP.ddiv y0 (4616189618054758400 : UInt64)) (FP.ddiv x0 (4616189618054758400 : UInt64))) z0)), .second, .val (.int (1 : Int32))] [(.double x1), (.double (FP.ddiv y1 (4616189618054758400 : UInt64))), (.double (FP.dadd (FP.dsub (FP.ddiv y0 (4616189618054758400 : UInt64)) (FP.ddiv x0 (4616189618054758400 : UInt64))) z0))])) rfl (hb hby own_d_prog_62_14_55) _ kt) ?_
  show own_Go p e below _ (s₁.setTop (mkF m 58 #[.val (.ref rb), .val (.int xat), .val (.ref rw), .val (.int (2 : Int32)), .val (.double (FP.dadd (FP.dsub (FP.ddiv y0 (4616189618054758400 : UInt64)) (FP.ddiv x0 (4616189618054758400 : UInt64))) z0)), .second, .val (.int (1 : Int32))] [(.double (4616189618054758400 : UInt64)), (.double x1), (.double (FP.ddiv y1 (4616189618054758400 : UInt64))), (.double (FP.dadd (FP.dsub (FP.ddiv y0 (4616189618054758400 : UInt64)) (FP.ddiv x0 (4616189618054758400 : UInt64))) z0))]))
  refine own_Go.st (fun _ kt => XS.ddivS X0.here hx rfl (hb hby own_d_prog_62_14_58) rfl (dv1.n64) rfl kt) ?_
  show own_Go p e below _ (s₁.setTop (mkF m 59 #[.val (.ref rb), .val (.int xat), .val (.ref rw), .val (.int (2 : Int32)), .val (.double (FP.dadd (FP.dsub (FP.ddiv y0 (4616189618054758400 : UInt64)) (FP.ddiv x0 (4616189618054758400 : UInt64))) z0)), .second, .val (.int (1 : Int32))] [(.double (FP.ddiv x1 (4616189618054758400 : UInt64))), (.double (FP.ddiv y1 (4616189618054758400 : UInt64))), (.double (FP.dadd (FP.dsub (FP.ddiv y0 (4616189618054758400 : UInt64)) (FP.ddiv x0 (4616189618054758400 : UInt64))) z0))]))
  refine own_Go.st (fun _ kt => XS.dsubS X0.here hx rfl (hb hby own_d_prog_62_14_59) rfl (dw1.n64) rfl kt) ?_
  show own_Go p e below _ (s₁.setTop (mkF m 60 #[.val (.ref rb), .val (.int xat), .val (.ref rw), .val (.int (2 : Int32)), .val (.double (FP.dadd (FP.dsub (FP.ddiv y0 (4616189618054758400 : UInt64)) (FP.ddiv x0 (4616189618054758400 : UInt64))) z0)), .second, .val (.int (1 : Int32))] [(.double (FP.dsub (FP.ddiv y1 (4616189618054758400 : UInt64)) (FP.ddiv x1 (4616189618054758400 : UInt64)))), (.double (FP.dadd (FP.dsub (FP.ddiv y0 (4616189618054758400 : UInt64)) (FP.ddiv x0 (4616189618054758400 : UInt64))) z0))]))
  refine own_Go.st (fun _ kt => XS.aloadN X0.here hx rfl (hb hby own_d_prog_62_14_60) rfl rfl kt) ?_
  show own_Go p e below _ (s₁.setTop (mkF m 61 #[.val (.ref rb), .val (.int xat), .val (.ref rw), .val (.int (2 : Int32)), .val (.double (FP.dadd (FP.dsub (FP.ddiv y0 (4616189618054758400 : UInt64)) (FP.ddiv x0 (4616189618054758400 : UInt64))) z0)), .second, .val (.int (1 : Int32))] [(.ref rw), (.double (FP.dsub (FP.ddiv y1 (4616189618054758400 : UInt64)) (FP.ddiv x1 (4616189618054758400 : UInt64)))), (.double (FP.dadd (FP.dsub (FP.ddiv y0 (4616189618054758400 : UInt64)) (FP.ddiv x0 (4616189618054758400 : UInt64))) z0))]))
  refine own_Go.st (fun _ kt => XS.iload X0.here hx rfl (hb hby own_d_prog_62_14_61) rfl kt) ?_
  show own_Go p e below _ (s₁.setTop (mkF m 63 #[.val (.ref rb), .val (.int xat), .val (.ref rw), .val (.int (2 : Int32)), .val (.double (FP.dadd (FP.dsub (FP.ddiv y0 (4616189618054758400 : UInt64)) (FP.ddiv x0 (4616189618054758400 : UInt64))) z0)), .second, .val (.int (1 : Int32))] [(.int (1 : Int32)), (.ref rw), (.double (FP.dsub (FP.ddiv y1 (4616189618054758400 : UInt64)) (FP.ddiv x1 (4616189618054758400 : UInt64)))), (.double (FP.dadd (FP.dsub (FP.ddiv y0 (4616189618054758400 : UInt64)) (FP.ddiv x0 (4616189618054758400 : UInt64))) z0))]))
  refine own_Go.st (fun _ kt => own_dld X0 hx hZ e0 aw (i := 1) (by decide) (by decide) (v := (.double z1)) fz1 (g := (mkF m 63 #[.val (.ref rb), .val (.int xat), .val (.ref rw), .val (.int (2 : Int32)), .val (.double (FP.dadd (FP.dsub (FP.ddiv y0 (4616189618054758400 : UInt64)) (FP.ddiv x0 (4616189618054758400 : UInt64))) z0)), .second, .val (.int (1 : Int32))] [(.int (1 : Int32)), (.ref rw), (.double (FP.dsub (FP.ddiv y1 (4616189618054758400 : UInt64)) (FP.ddiv x1 (4616189618054758400 : UInt64)))), (.double (FP.dadd (FP.dsub (FP.ddiv y0 (4616189618054758400 : UInt64)) (FP.ddiv x0 (4616189618054758400 : UInt64))) z0))])) rfl rfl (hb hby own_d_prog_62_14_63) _ kt) ?_
  show own_Go p e below _ (s₁.setTop (mkF m 64 #[.val (.ref rb), .val (.int xat), .val (.ref rw), .val (.int (2 : Int32)), .val (.double (FP.dadd (FP.dsub (FP.ddiv y0 (4616189618054758400 : UInt64)) (FP.ddiv x0 (4616189618054758400 : UInt64))) z0)), .second, .val (.int (1 : Int32))] [(.double z1), (.double (FP.dsub (FP.ddiv y1 (4616189618054758400 : UInt64)) (FP.ddiv x1 (4616189618054758400 : UInt64)))), (.double (FP.dadd (FP.dsub (FP.ddiv y0 (4616189618054758400 : UInt64)) (FP.ddiv x0 (4616189618054758400 : UInt64))) z0))]))
  refine own_Go.st (fun _ kt => XS.daddS X0.here hx rfl (hb hby own_d_prog_62_14_64) rfl (dx1.n64) rfl kt) ?_
  show own_Go p e below _ (s₁.setTop (mkF m 65 #[.val (.ref rb), .val (.int xat), .val (.ref rw), .val (.int (2 : Int32)), .val (.double (FP.dadd (FP.dsub (FP.ddiv y0 (4616189618054758400 : UInt64)) (FP.ddiv x0 (4616189618054758400 : UInt64))) z0)), .second, .val (.int (1 : Int32))] [(.double (FP.dadd (FP.dsub (FP.ddiv y1 (4616189618054758400 : UInt64)) (FP.ddiv x1 (4616189618054758400 : UInt64))) z1)), (.double (FP.dadd (FP.dsub (FP.ddiv y0 (4616189618054758400 : UInt64)) (FP.ddiv x0 (4616189618054758400 : UInt64))) z0))]))
  have m1 := own_mulP dx0 dx1 hD1 r1
  refine own_Go.st (fun _ kt => XS.dmulS X0.here hx rfl (hb hby own_d_prog_62_14_65) rfl (m1.n64) rfl kt) ?_
  show own_Go p e below _ (s₁.setTop (mkF m 66 #[.val (.ref rb), .val (.int xat), .val (.ref rw), .val (.int (2 : Int32)), .val (.double (FP.dadd (FP.dsub (FP.ddiv y0 (4616189618054758400 : UInt64)) (FP.ddiv x0 (4616189618054758400 : UInt64))) z0)), .second, .val (.int (1 : Int32))] [(.double (FP.dmul (FP.dadd (FP.dsub (FP.ddiv y0 (4616189618054758400 : UInt64)) (FP.ddiv x0 (4616189618054758400 : UInt64))) z0) (FP.dadd (FP.dsub (FP.ddiv y1 (4616189618054758400 : UInt64)) (FP.ddiv x1 (4616189618054758400 : UInt64))) z1)))]))
  refine own_Go.st (fun _ kt => XS.dstore X0.here hx rfl (hb hby own_d_prog_62_14_66) rfl (l' := #[.val (.ref rb), .val (.int xat), .val (.ref rw), .val (.int (2 : Int32)), .val (.double (FP.dmul (FP.dadd (FP.dsub (FP.ddiv y0 (4616189618054758400 : UInt64)) (FP.ddiv x0 (4616189618054758400 : UInt64))) z0) (FP.dadd (FP.dsub (FP.ddiv y1 (4616189618054758400 : UInt64)) (FP.ddiv x1 (4616189618054758400 : UInt64))) z1))), .second, .val (.int (1 : Int32))]) rfl kt) ?_
  show own_Go p e below _ (s₁.setTop (mkF m 68 #[.val (.ref rb), .val (.int xat), .val (.ref rw), .val (.int (2 : Int32)), .val (.double (FP.dmul (FP.dadd (FP.dsub (FP.ddiv y0 (4616189618054758400 : UInt64)) (FP.ddiv x0 (4616189618054758400 : UInt64))) z0) (FP.dadd (FP.dsub (FP.ddiv y1 (4616189618054758400 : UInt64)) (FP.ddiv x1 (4616189618054758400 : UInt64))) z1))), .second, .val (.int (1 : Int32))] []))
  refine own_Go.st (fun _ kt => XS.iinc X0.here hx rfl (hb hby own_d_prog_62_14_68) rfl (l' := #[.val (.ref rb), .val (.int xat), .val (.ref rw), .val (.int (2 : Int32)), .val (.double (FP.dmul (FP.dadd (FP.dsub (FP.ddiv y0 (4616189618054758400 : UInt64)) (FP.ddiv x0 (4616189618054758400 : UInt64))) z0) (FP.dadd (FP.dsub (FP.ddiv y1 (4616189618054758400 : UInt64)) (FP.ddiv x1 (4616189618054758400 : UInt64))) z1))), .second, .val (.int ((1 : Int32) + (1 : Int32)))]) rfl kt) ?_
  show own_Go p e below _ (s₁.setTop (mkF m 71 #[.val (.ref rb), .val (.int xat), .val (.ref rw), .val (.int (2 : Int32)), .val (.double (FP.dmul (FP.dadd (FP.dsub (FP.ddiv y0 (4616189618054758400 : UInt64)) (FP.ddiv x0 (4616189618054758400 : UInt64))) z0) (FP.dadd (FP.dsub (FP.ddiv y1 (4616189618054758400 : UInt64)) (FP.ddiv x1 (4616189618054758400 : UInt64))) z1))), .second, .val (.int ((1 : Int32) + (1 : Int32)))] []))
  refine own_Go.st (fun _ kt => XS.goto X0.here hx rfl (pc0 := 71) (pc' := 29) rfl (hb hby own_d_prog_62_14_71) (by decide) (by decide) kt) ?_
  show own_Go p e below _ (s₁.setTop (mkF m 29 #[.val (.ref rb), .val (.int xat), .val (.ref rw), .val (.int (2 : Int32)), .val (.double (FP.dmul (FP.dadd (FP.dsub (FP.ddiv y0 (4616189618054758400 : UInt64)) (FP.ddiv x0 (4616189618054758400 : UInt64))) z0) (FP.dadd (FP.dsub (FP.ddiv y1 (4616189618054758400 : UInt64)) (FP.ddiv x1 (4616189618054758400 : UInt64))) z1))), .second, .val (.int ((1 : Int32) + (1 : Int32)))] []))
  refine own_Go.st (fun _ kt => XS.iload X0.here hx rfl (hb hby own_d_prog_62_14_29) rfl kt) ?_
  show own_Go p e below _ (s₁.setTop (mkF m 31 #[.val (.ref rb), .val (.int xat), .val (.ref rw), .val (.int (2 : Int32)), .val (.double (FP.dmul (FP.dadd (FP.dsub (FP.ddiv y0 (4616189618054758400 : UInt64)) (FP.ddiv x0 (4616189618054758400 : UInt64))) z0) (FP.dadd (FP.dsub (FP.ddiv y1 (4616189618054758400 : UInt64)) (FP.ddiv x1 (4616189618054758400 : UInt64))) z1))), .second, .val (.int ((1 : Int32) + (1 : Int32)))] [(.int ((1 : Int32) + (1 : Int32)))]))
  refine own_Go.st (fun _ kt => XS.iloadN X0.here hx rfl (hb hby own_d_prog_62_14_31) rfl kt) ?_
  show own_Go p e below _ (s₁.setTop (mkF m 32 #[.val (.ref rb), .val (.int xat), .val (.ref rw), .val (.int (2 : Int32)), .val (.double (FP.dmul (FP.dadd (FP.dsub (FP.ddiv y0 (4616189618054758400 : UInt64)) (FP.ddiv x0 (4616189618054758400 : UInt64))) z0) (FP.dadd (FP.dsub (FP.ddiv y1 (4616189618054758400 : UInt64)) (FP.ddiv x1 (4616189618054758400 : UInt64))) z1))), .second, .val (.int ((1 : Int32) + (1 : Int32)))] [(.int (2 : Int32)), (.int ((1 : Int32) + (1 : Int32)))]))
  refine own_Go.st (fun _ kt => XS.icmpYes X0.here hx rfl (pc0 := 32) (pc' := 74) rfl (hb hby own_d_prog_62_14_32) rfl (flt (by decide)).2.1 (by decide) (by decide) kt) ?_
  show own_Go p e below _ (s₁.setTop (mkF m 74 #[.val (.ref rb), .val (.int xat), .val (.ref rw), .val (.int (2 : Int32)), .val (.double (FP.dmul (FP.dadd (FP.dsub (FP.ddiv y0 (4616189618054758400 : UInt64)) (FP.ddiv x0 (4616189618054758400 : UInt64))) z0) (FP.dadd (FP.dsub (FP.ddiv y1 (4616189618054758400 : UInt64)) (FP.ddiv x1 (4616189618054758400 : UInt64))) z1))), .second, .val (.int ((1 : Int32) + (1 : Int32)))] []))
  refine own_Go.st (fun _ kt => XS.dload X0.here hx rfl (hb hby own_d_prog_62_14_74) rfl kt) ?_
  show own_Go p e below _ (s₁.setTop (mkF m 76 #[.val (.ref rb), .val (.int xat), .val (.ref rw), .val (.int (2 : Int32)), .val (.double (FP.dmul (FP.dadd (FP.dsub (FP.ddiv y0 (4616189618054758400 : UInt64)) (FP.ddiv x0 (4616189618054758400 : UInt64))) z0) (FP.dadd (FP.dsub (FP.ddiv y1 (4616189618054758400 : UInt64)) (FP.ddiv x1 (4616189618054758400 : UInt64))) z1))), .second, .val (.int ((1 : Int32) + (1 : Int32)))] [(.double (FP.dmul (FP.dadd (FP.dsub (FP.ddiv y0 (4616189618054758400 : UInt64)) (FP.ddiv x0 (4616189618054758400 : UInt64))) z0) (FP.dadd (FP.dsub (FP.ddiv y1 (4616189618054758400 : UInt64)) (FP.ddiv x1 (4616189618054758400 : UInt64))) z1)))]))
  exact own_retD X0 hx Bd.notSynchronized Bd.returns (hb hby own_d_prog_62_14_76) (by decide) (by decide) ⟨_, rfl, N0, m1, e0⟩
theorem own_ef7 (m : MethodId) (x0 : Addr) (x1 : Int32) (x2 : Addr) : entryFrame m #[(.ref x0), (.int x1), (.ref x2)] 7 = mkF m 0 #[.val (.ref x0), .val (.int x1), .val (.ref x2), .unset, .unset, .unset, .unset] [] := by first | (simp [entryFrame, mkF, argsToLocals, Value.category]; done) | rfl
def own_Q_own_gv3 (Z : State) (rb : Addr) (xat : Int32) (rw : Addr) (ia : Nat) (fb fw : Nat → Value) (x0 y0 z0 : UInt64) (G0 : Int) (E0 : Nat) (x1 y1 z1 : UInt64) (G1 : Int) (E1 : Nat) (x2 y2 z2 : UInt64) (G2 : Int) (E2 : Nat) (D1 D2 : Nat) (h0 : Heap) (n0 : Nat) (v : Option Value) (h : Heap) (L : List Loc) : Prop := ∃ d, v = some (.double d) ∧ Fr n0 L ∧ own_D d (G0 * G1 * G2 * ((2 ^ D2 : Nat) : Int)) ∧ h = h0
set_option maxRecDepth 65536 in
set_option maxHeartbeats 40000000 in
theorem own_gv3 (l : Launch) (Z : State) (a0 : Array Value) (hw : ∀ d ∈ tables_1, d.before a0 Z = true) (ws : List Jvm.Cond) (rb : Addr) (xat : Int32) (rw : Addr) (ia : Nat) (fb fw : Nat → Value) (x0 y0 z0 : UInt64) (G0 : Int) (E0 : Nat) (x1 y1 z1 : UInt64) (G1 : Int) (E1 : Nat) (x2 y2 z2 : UInt64) (G2 : Int) (E2 : Nat) (D1 D2 : Nat) (h0 : Heap) (n0 : Nat) (Z0 : n0 ≤ h0.size) (ab : own_Ar Z h0 rb .double 10 fb) (aw : own_Ar Z h0 rw .double 3 fw) (hat : xat.toInt = (ia : Int)) (la : ia < 4) (ex0 : own_ext x0 y0 z0 G0 E0) (le0 : E0 ≤ 2081) (fx0 : fb (ia + 0) = .double x0) (fy0 : fb (ia + 3 + 0) = .double y0) (fz0 : fw 0 = .double z0) (ex1 : own_ext x1 y1 z1 G1 E1) (le1 : E1 ≤ 2081) (fx1 : fb (ia + 1) = .double x1) (fy1 : fb (ia + 3 + 1) = .double y1) (fz1 : fw 1 = .double z1) (ex2 : own_ext x2 y2 z2 G2 E2) (le2 : E2 ≤ 2081) (fx2 : fb (ia + 2) = .double x2) (fy2 : fb (ia + 3 + 2) = .double y2) (fz2 : fw 2 = .double z2) (hD1 : E0 + E1 = D1 + 1074) (hD2 : D1 + E2 = D2 + 1074) (r1 : own_Rep (G0 * G1 * ((2 ^ D1 : Nat) : Int))) (r2 : own_Rep (G0 * G1 * G2 * ((2 ^ D2 : Nat) : Int))) :
    MetFree l (⟨"com/example/thicket/thicket/PackedLevel", "grownVolume", "([DI[D)D"⟩ : MethodName) (head1 (Jvm.Cond.code (⟨"com/example/thicket/thicket/PackedLevel", "grownVolume", "([DI[D)D"⟩ : MethodName) prog_62_method_14_code 7 (some .double) :: ws) ({ frames := 0, cells := 0, slots := 0, locals := 0 } : Room)) (fun av_ U => av_ = #[(.ref rb), (.int xat), (.ref rw)] ∧ Z.Warmed39 U.vm ∧ U.heap = h0) (fun _ _ _ _ _ => True) (fun _ U o U' => ∃ v L, o = .returned v ∧ own_Q_own_gv3 Z rb xat rw ia fb fw x0 y0 z0 G0 E0 x1 y1 z1 G1 E1 x2 y2 z2 G2 E2 D1 D2 h0 n0 v U'.heap L ∧ FrameEnd U o U' L ({ frames := 0, cells := 0, slots := 0, locals := 0 } : Room).cells ({ frames := 0, cells := 0, slots := 0, locals := 0 } : Room).slots) := by
  refine MetFree.of_bodySF (plainFor_of_name own_pn1) hisR ?_
  intro p e s m args below meth c s₁ Bd hml0 hP hK
  obtain ⟨rfl, hZ, hh⟩ := hP
  have hx := Bd.exec
  have hby := Bd.bytes
  have hml : c.maxLocals = 7 := hml0
  have hown : s.vm.findClass "com/example/thicket/thicket/PackedLevel" = some m.cls := findClass_of_methodNamed Bd.named
  have hnm := (name_of_methodNamed Bd.named Bd.method).1
  have X0 : Stand p l e ({ frames := 0, cells := 0, slots := 0, locals := 0 } : Room) s m #[(.ref rb), (.int xat), (.ref rw)] below meth c s₁ [] 0 0 := Stand.of_body Bd
  have e0 : s₁.heap = h0 := by rw [← hh, Bd.state]; rfl
  have N0 := Fr.nil n0
  suffices hgo : own_Go p e below (fun o U' => ∃ v L, o = .returned v ∧ own_Q_own_gv3 Z rb xat rw ia fb fw x0 y0 z0 G0 E0 x1 y1 z1 G1 E1 x2 y2 z2 G2 E2 D1 D2 h0 n0 v U'.heap L ∧ FrameEnd s o U' L ({ frames := 0, cells := 0, slots := 0, locals := 0 } : Room).cells ({ frames := 0, cells := 0, slots := 0, locals := 0 } : Room).slots) (s₁.setTop (mkF m 0 #[.val (.ref rb), .val (.int xat), .val (.ref rw), .unset, .unset, .unset, .unset] [])) by
    obtain ⟨s₂, o, h1, h2, h3, h4⟩ := hgo
    exact ⟨s₂, o, castTop (own_ef7 m rb xat rw) h1, h2, h3, h4⟩
  show own_Go p e below _ (s₁.setTop (mkF m 0 #[.val (.ref rb), .val (.int xat), .val (.ref rw), .unset, .unset, .unset, .unset] []))
  refine own_Go.st (fun _ kt => XS.aloadN X0.here hx rfl (hb hby own_d_prog_62_14_0) rfl rfl kt) ?_
  show own_Go p e below _ (s₁.setTop (mkF m 1 #[.val (.ref rb), .val (.int xat), .val (.ref rw), .unset, .unset, .unset, .unset] [(.ref rw)]))
  refine own_Go.st (fun _ kt => own_alen X0 hx hZ e0 aw (z := (3 : Int32)) (by decide) (g := (mkF m 1 #[.val (.ref rb), .val (.int xat), .val (.ref rw), .unset, .unset, .unset, .unset] [(.ref rw)])) rfl rfl (hb hby own_d_prog_62_14_1) _ kt) ?_
  show own_Go p e below _ (s₁.setTop (mkF m 2 #[.val (.ref rb), .val (.int xat), .val (.ref rw), .unset, .unset, .unset, .unset] [(.int (3 : Int32))]))
  refine own_Go.st (fun _ kt => XS.istoreN X0.here hx rfl (hb hby own_d_prog_62_14_2) rfl (l' := #[.val (.ref rb), .val (.int xat), .val (.ref rw), .val (.int (3 : Int32)), .unset, .unset, .unset]) rfl kt) ?_
  show own_Go p e below _ (s₁.setTop (mkF m 3 #[.val (.ref rb), .val (.int xat), .val (.ref rw), .val (.int (3 : Int32)), .unset, .unset, .unset] []))
  refine own_Go.st (fun _ kt => XS.aloadN X0.here hx rfl (hb hby own_d_prog_62_14_3) rfl rfl kt) ?_
  show own_Go p e below _ (s₁.setTop (mkF m 4 #[.val (.ref rb), .val (.int xat), .val (.ref rw), .val (.int (3 : Int32)), .unset, .unset, .unset] [(.ref rb)]))
  refine own_Go.st (fun _ kt => XS.iloadN X0.here hx rfl (hb hby own_d_prog_62_14_4) rfl kt) ?_
  show own_Go p e below _ (s₁.setTop (mkF m 5 #[.val (.ref rb), .val (.int xat), .val (.ref rw), .val (.int (3 : Int32)), .unset, .unset, .unset] [(.int xat), (.ref rb)]))
  refine own_Go.st (fun _ kt => XS.iloadN X0.here hx rfl (hb hby own_d_prog_62_14_5) rfl kt) ?_
  show own_Go p e below _ (s₁.setTop (mkF m 6 #[.val (.ref rb), .val (.int xat), .val (.ref rw), .val (.int (3 : Int32)), .unset, .unset, .unset] [(.int (3 : Int32)), (.int xat), (.ref rb)]))
  refine own_Go.st (fun _ kt => XS.iadd X0.here hx rfl (hb hby own_d_prog_62_14_6) rfl kt) ?_
  show own_Go p e below _ (s₁.setTop (mkF m 7 #[.val (.ref rb), .val (.int xat), .val (.ref rw), .val (.int (3 : Int32)), .unset, .unset, .unset] [(.int (xat + (3 : Int32))), (.ref rb)]))
  obtain ⟨u0, v0, w0, du0, dv0, dw0, dx0⟩ := own_extent ex0 le0
  refine own_Go.st (fun _ kt => own_dld X0 hx hZ e0 ab (own_addn hat (e := 3) (by decide) (by omega) (by decide)) (by omega) (v := (.double y0)) fy0 (g := (mkF m 7 #[.val (.ref rb), .val (.int xat), .val (.ref rw), .val (.int (3 : Int32)), .unset, .unset, .unset] [(.int (xat + (3 : Int32))), (.ref rb)])) rfl rfl (hb hby own_d_prog_62_14_7) _ kt) ?_
  show own_Go p e below _ (s₁.setTop (mkF m 8 #[.val (.ref rb), .val (.int xat), .val (.ref rw), .val (.int (3 : Int32)), .unset, .unset, .unset] [(.double y0)]))
  refine own_Go.st (fun _ kt => X0.ldc2DoubleC hx hown (mvT hZ (hw _ (List.mem_of_getElem? (i := 32) rfl))) (g := (mkF m 8 #[.val (.ref rb), .val (.int xat), .val (.ref rw), .val (.int (3 : Int32)), .unset, .unset, .unset] [(.double y0)])) rfl (hb hby own_d_prog_62_14_8) _ kt) ?_
  show own_Go p e below _ (s₁.setTop (mkF m 11 #[.val (.ref rb), .val (.int xat), .val (.ref rw), .val (.int (3 : Int32)), .unset, .unset, .unset] [(.double (4616189618054758400 : UInt64)), (.double y0)]))
  refine own_Go.st (fun _ kt => XS.ddivS X0.here hx rfl (hb hby own_d_prog_62_14_11) rfl (du0.n64) rfl kt) ?_
  show own_Go p e below _ (s₁.setTop (mkF m 12 #[.val (.ref rb), .val (.int xat), .val (.ref rw), .val (.int (3 : Int32)), .unset, .unset, .unset] [(.double (FP.ddiv y0 (4616189618054758400 : UInt64)))]))
  refine own_Go.st (fun _ kt => XS.aloadN X0.here hx rfl (hb hby own_d_prog_62_14_12) rfl rfl kt) ?_
  show own_Go p e below _ (s₁.setTop (mkF m 13 #[.val (.ref rb), .val (.int xat), .val (.ref rw), .val (.int (3 : Int32)), .unset, .unset, .unset] [(.ref rb), (.double (FP.ddiv y0 (4616189618054758400 : UInt64)))]))
  refine own_Go.st (fun _ kt => XS.iloadN X0.here hx rfl (hb hby own_d_prog_62_14_13) rfl kt) ?_
  show own_Go p e below _ (s₁.setTop (mkF m 14 #[.val (.ref rb), .val (.int xat), .val (.ref rw), .val (.int (3 : Int32)), .unset, .unset, .unset] [(.int xat), (.ref rb), (.double (FP.ddiv y0 (4616189618054758400 : UInt64)))]))
  refine own_Go.st (fun _ kt => own_dld X0 hx hZ e0 ab hat (by omega) (v := (.double x0)) fx0 (g := (mkF m 14 #[.val (.ref rb), .val (.int xat), .val (.ref rw), .val (.int (3 : Int32)), .unset, .unset, .unset] [(.int xat), (.ref rb), (.double (FP.ddiv y0 (4616189618054758400 : UInt64)))])) rfl rfl (hb hby own_d_prog_62_14_14) _ kt) ?_
  show own_Go p e below _ (s₁.setTop (mkF m 15 #[.val (.ref rb), .val (.int xat), .val (.ref rw), .val (.int (3 : Int32)), .unset, .unset, .unset] [(.double x0), (.double (FP.ddiv y0 (4616189618054758400 : UInt64)))]))
  refine own_Go.st (fun _ kt => X0.ldc2DoubleC hx hown (mvT hZ (hw _ (List.mem_of_getElem? (i := 32) rfl))) (g := (mkF m 15 #[.val (.ref rb), .val (.int xat), .val (.ref rw), .val (.int (3 : Int32)), .unset, .unset, .unset] [(.double x0), (.double (FP.ddiv y0 (4616189618054758400 : UInt64)))])) rfl (hb hby own_d_prog_62_14_15) _ kt) ?_
  show own_Go p e below _ (s₁.setTop (mkF m 18 #[.val (.ref rb), .val (.int xat), .val (.ref rw), .val (.int (3 : Int32)), .unset, .unset, .unset] [(.double (4616189618054758400 : UInt64)), (.double x0), (.double (FP.ddiv y0 (4616189618054758400 : UInt64)))]))
  refine own_Go.st (fun _ kt => XS.ddivS X0.here hx rfl (hb hby own_d_prog_62_14_18) rfl (dv0.n64) rfl kt) ?_
  show own_Go p e below _ (s₁.setTop (mkF m 19 #[.val (.ref rb), .val (.int xat), .val (.ref rw), .val (.int (3 : Int32)), .unset, .unset, .unset] [(.double (FP.ddiv x0 (4616189618054758400 : UInt64))), (.double (FP.ddiv y0 (4616189618054758400 : UInt64)))]))
  refine own_Go.st (fun _ kt => XS.dsubS X0.here hx rfl (hb hby own_d_prog_62_14_19) rfl (dw0.n64) rfl kt) ?_
  show own_Go p e below _ (s₁.setTop (mkF m 20 #[.val (.ref rb), .val (.int xat), .val (.ref rw), .val (.int (3 : Int32)), .unset, .unset, .unset] [(.double (FP.dsub (FP.ddiv y0 (4616189618054758400 : UInt64)) (FP.ddiv x0 (4616189618054758400 : UInt64))))]))
  refine own_Go.st (fun _ kt => XS.aloadN X0.here hx rfl (hb hby own_d_prog_62_14_20) rfl rfl kt) ?_
  show own_Go p e below _ (s₁.setTop (mkF m 21 #[.val (.ref rb), .val (.int xat), .val (.ref rw), .val (.int (3 : Int32)), .unset, .unset, .unset] [(.ref rw), (.double (FP.dsub (FP.ddiv y0 (4616189618054758400 : UInt64)) (FP.ddiv x0 (4616189618054758400 : UInt64))))]))
  refine own_Go.st (fun _ kt => XS.iconst X0.here hx rfl (hb hby own_d_prog_62_14_21) kt) ?_
  show own_Go p e below _ (s₁.setTop (mkF m 22 #[.val (.ref rb), .val (.int xat), .val (.ref rw), .val (.int (3 : Int32)), .unset, .unset, .unset] [(.int (0 : Int32)), (.ref rw), (.double (FP.dsub (FP.ddiv y0 (4616189618054758400 : UInt64)) (FP.ddiv x0 (4616189618054758400 : UInt64))))]))
  refine own_Go.st (fun _ kt => own_dld X0 hx hZ e0 aw (i := 0) (by decide) (by decide) (v := (.double z0)) fz0 (g := (mkF m 22 #[.val (.ref rb), .val (.int xat), .val (.ref rw), .val (.int (3 : Int32)), .unset, .unset, .unset] [(.int (0 : Int32)), (.ref rw), (.double (FP.dsub (FP.ddiv y0 (4616189618054758400 : UInt64)) (FP.ddiv x0 (4616189618054758400 : UInt64))))])) rfl rfl (hb hby own_d_prog_62_14_22) _ kt) ?_
  show own_Go p e below _ (s₁.setTop (mkF m 23 #[.val (.ref rb), .val (.int xat), .val (.ref rw), .val (.int (3 : Int32)), .unset, .unset, .unset] [(.double z0), (.double (FP.dsub (FP.ddiv y0 (4616189618054758400 : UInt64)) (FP.ddiv x0 (4616189618054758400 : UInt64))))]))
  refine own_Go.st (fun _ kt => XS.daddS X0.here hx rfl (hb hby own_d_prog_62_14_23) rfl (dx0.n64) rfl kt) ?_
  show own_Go p e below _ (s₁.setTop (mkF m 24 #[.val (.ref rb), .val (.int xat), .val (.ref rw), .val (.int (3 : Int32)), .unset, .unset, .unset] [(.double (FP.dadd (FP.dsub (FP.ddiv y0 (4616189618054758400 : UInt64)) (FP.ddiv x0 (4616189618054758400 : UInt64))) z0))]))
  refine own_Go.st (fun _ kt => XS.dstore X0.here hx rfl (hb hby own_d_prog_62_14_24) rfl (l' := #[.val (.ref rb), .val (.int xat), .val (.ref rw), .val (.int (3 : Int32)), .val (.double (FP.dadd (FP.dsub (FP.ddiv y0 (4616189618054758400 : UInt64)) (FP.ddiv x0 (4616189618054758400 : UInt64))) z0)), .second, .unset]) rfl kt) ?_
  show own_Go p e below _ (s₁.setTop (mkF m 26 #[.val (.ref rb), .val (.int xat), .val (.ref rw), .val (.int (3 : Int32)), .val (.double (FP.dadd (FP.dsub (FP.ddiv y0 (4616189618054758400 : UInt64)) (FP.ddiv x0 (4616189618054758400 : UInt64))) z0)), .second, .unset] []))
  refine own_Go.st (fun _ kt => XS.iconst X0.here hx rfl (hb hby own_d_prog_62_14_26) kt) ?_
  show own_Go p e below _ (s₁.setTop (mkF m 27 #[.val (.ref rb), .val (.int xat), .val (.ref rw), .val (.int (3 : Int32)), .val (.double (FP.dadd (FP.dsub (FP.ddiv y0 (4616189618054758400 : UInt64)) (FP.ddiv x0 (4616189618054758400 : UInt64))) z0)), .second, .unset] [(.int (1 : Int32))]))
  refine own_Go.st (fun _ kt => XS.istore X0.here hx rfl (hb hby own_d_prog_62_14_27) rfl (l' := #[.val (.ref rb), .val (.int xat), .val (.ref rw), .val (.int (3 : Int32)), .val (.double (FP.dadd (FP.dsub (FP.ddiv y0 (4616189618054758400 : UInt64)) (FP.ddiv x0 (4616189618054758400 : UInt64))) z0)), .second, .val (.int (1 : Int32))]) rfl kt) ?_
  show own_Go p e below _ (s₁.setTop (mkF m 29 #[.val (.ref rb), .val (.int xat), .val (.ref rw), .val (.int (3 : Int32)), .val (.double (FP.dadd (FP.dsub (FP.ddiv y0 (4616189618054758400 : UInt64)) (FP.ddiv x0 (4616189618054758400 : UInt64))) z0)), .second, .val (.int (1 : Int32))] []))
  refine own_Go.st (fun _ kt => XS.iload X0.here hx rfl (hb hby own_d_prog_62_14_29) rfl kt) ?_
  show own_Go p e below _ (s₁.setTop (mkF m 31 #[.val (.ref rb), .val (.int xat), .val (.ref rw), .val (.int (3 : Int32)), .val (.double (FP.dadd (FP.dsub (FP.ddiv y0 (4616189618054758400 : UInt64)) (FP.ddiv x0 (4616189618054758400 : UInt64))) z0)), .second, .val (.int (1 : Int32))] [(.int (1 : Int32))]))
  refine own_Go.st (fun _ kt => XS.iloadN X0.here hx rfl (hb hby own_d_prog_62_14_31) rfl kt) ?_
  show own_Go p e below _ (s₁.setTop (mkF m 32 #[.val (.ref rb), .val (.int xat), .val (.ref rw), .val (.int (3 : Int32)), .val (.double (FP.dadd (FP.dsub (FP.ddiv y0 (4616189618054758400 : UInt64)) (FP.ddiv x0 (4616189618054758400 : UInt64))) z0)), .second, .val (.int (1 : Int32))] [(.int (3 : Int32)), (.int (1 : Int32))]))
  refine own_Go.st (fun _ kt => XS.icmpNo X0.here hx rfl (hb hby own_d_prog_62_14_32) rfl (tlt (by decide)).2.1 kt) ?_
  show own_Go p e below _ (s₁.setTop (mkF m 35 #[.val (.ref rb), .val (.int xat), .val (.ref rw), .val (.int (3 : Int32)), .val (.double (FP.dadd (FP.dsub (FP.ddiv y0 (4616189618054758400 : UInt64)) (FP.ddiv x0 (4616189618054758400 : UInt64))) z0)), .second, .val (.int (1 : Int32))] []))
  refine own_Go.st (fun _ kt => XS.dload X0.here hx rfl (hb hby own_d_prog_62_14_35) rfl kt) ?_
  show own_Go p e below _ (s₁.setTop (mkF m 37 #[.val (.ref rb), .val (.int xat), .val (.ref rw), .val (.int (3 : Int32)), .val (.double (FP.dadd (FP.dsub (FP.ddiv y0 (4616189618054758400 : UInt64)) (FP.ddiv x0 (4616189618054758400 : UInt64))) z0)), .second, .val (.int (1 : Int32))] [(.double (FP.dadd (FP.dsub (FP.ddiv y0 (4616189618054758400 : UInt64)) (FP.ddiv x0 (4616189618054758400 : UInt64))) z0))]))
  refine own_Go.st (fun _ kt => XS.aloadN X0.here hx rfl (hb hby own_d_prog_62_14_37) rfl rfl kt) ?_
  show own_Go p e below _ (s₁.setTop (mkF m 38 #[.val (.ref rb), .val (.int xat), .val (.ref rw), .val (.int (3 : Int32)), .val (.double (FP.dadd (FP.dsub (FP.ddiv y0 (4616189618054758400 : UInt64)) (FP.ddiv x0 (4616189618054758400 : UInt64))) z0)), .second, .val (.int (1 : Int32))] [(.ref rb), (.double (FP.dadd (FP.dsub (FP.ddiv y0 (4616189618054758400 : UInt64)) (FP.ddiv x0 (4616189618054758400 : UInt64))) z0))]))
  refine own_Go.st (fun _ kt => XS.iloadN X0.here hx rfl (hb hby own_d_prog_62_14_38) rfl kt) ?_
  show own_Go p e below _ (s₁.setTop (mkF m 39 #[.val (.ref rb), .val (.int xat), .val (.ref rw), .val (.int (3 : Int32)), .val (.double (FP.dadd (FP.dsub (FP.ddiv y0 (4616189618054758400 : UInt64)) (FP.ddiv x0 (4616189618054758400 : UInt64))) z0)), .second, .val (.int (1 : Int32))] [(.int xat), (.ref rb), (.double (FP.dadd (FP.dsub (FP.ddiv y0 (4616189618054758400 : UInt64)) (FP.ddiv x0 (4616189618054758400 : UInt64))) z0))]))
  refine own_Go.st (fun _ kt => XS.iloadN X0.here hx rfl (hb hby own_d_prog_62_14_39) rfl kt) ?_
  show own_Go p e below _ (s₁.setTop (mkF m 40 #[.val (.ref rb), .val (.int xat), .val (.ref rw), .val (.int (3 : Int32)), .val (.double (FP.dadd (FP.dsub (FP.ddiv y0 (4616189618054758400 : UInt64)) (FP.ddiv x0 (4616189618054758400 : UInt64))) z0)), .second, .val (.int (1 : Int32))] [(.int (3 : Int32)), (.int xat), (.ref rb), (.double (FP.dadd (FP.dsub (FP.ddiv y0 (4616189618054758400 : UInt64)) (FP.ddiv x0 (4616189618054758400 : UInt64))) z0))]))
  refine own_Go.st (fun _ kt => XS.iadd X0.here hx rfl (hb hby own_d_prog_62_14_40) rfl kt) ?_
  show own_Go p e below _ (s₁.setTop (mkF m 41 #[.val (.ref rb), .val (.int xat), .val (.ref rw), .val (.int (3 : Int32)), .val (.double (FP.dadd (FP.dsub (FP.ddiv y0 (4616189618054758400 : UInt64)) (FP.ddiv x0 (4616189618054758400 : UInt64))) z0)), .second, .val (.int (1 : Int32))] [(.int (xat + (3 : Int32))), (.ref rb), (.double (FP.dadd (FP.dsub (FP.ddiv y0 (4616189618054758400 : UInt64)) (FP.ddiv x0 (4616189618054758400 : UInt64))) z0))]))
  refine own_Go.st (fun _ kt => XS.iload X0.here hx rfl (hb hby own_d_prog_62_14_41) rfl kt) ?_
  show own_Go p e below _ (s₁.setTop (mkF m 43 #[.val (.ref rb), .val (.int xat), .val (.ref rw), .val (.int (3 : Int32)), .val (.double (FP.dadd (FP.dsub (FP.ddiv y0 (4616189618054758400 : UInt64)) (FP.ddiv x0 (4616189618054758400 : UInt64))) z0)), .second, .val (.int (1 : Int32))] [(.int (1 : Int32)), (.int (xat + (3 : Int32))), (.ref rb), (.double (FP.dadd (FP.dsub (FP.ddiv y0 (4616189618054758400 : UInt64)) (FP.ddiv x0 (4616189618054758400 : UInt64))) z0))]))
  refine own_Go.st (fun _ kt => XS.iadd X0.here hx rfl (hb hby own_d_prog_62_14_43) rfl kt) ?_
  show own_Go p e below _ (s₁.setTop (mkF m 44 #[.val (.ref rb), .val (.int xat), .val (.ref rw), .val (.int (3 : Int32)), .val (.double (FP.dadd (FP.dsub (FP.ddiv y0 (4616189618054758400 : UInt64)) (FP.ddiv x0 (4616189618054758400 : UInt64))) z0)), .second, .val (.int (1 : Int32))] [(.int ((xat + (3 : Int32)) + (1 : Int32))), (.ref rb), (.double (FP.dadd (FP.dsub (FP.ddiv y0 (4616189618054758400 : UInt64)) (FP.ddiv x0 (4616189618054758400 : UInt64))) z0))]))
  obtain ⟨u1, v1, w1, du1, dv1, dw1, dx1⟩ := own_extent ex1 le1
  refine own_Go.st (fun _ kt => own_dld X0 hx hZ e0 ab (own_addn (own_addn hat (e := 3) (by decide) (by omega) (by decide)) (e := 1) (by decide) (by omega) (by decide)) (by omega) (v := (.double y1)) fy1 (g := (mkF m 44 #[.val (.ref rb), .val (.int xat), .val (.ref rw), .val (.int (3 : Int32)), .val (.double (FP.dadd (FP.dsub (FP.ddiv y0 (4616189618054758400 : UInt64)) (FP.ddiv x0 (4616189618054758400 : UInt64))) z0)), .second, .val (.int (1 : Int32))] [(.int ((xat + (3 : Int32)) + (1 : Int32))), (.ref rb), (.double (FP.dadd (FP.dsub (FP.ddiv y0 (4616189618054758400 : UInt64)) (FP.ddiv x0 (4616189618054758400 : UInt64))) z0))])) rfl rfl (hb hby own_d_prog_62_14_44) _ kt) ?_
  show own_Go p e below _ (s₁.setTop (mkF m 45 #[.val (.ref rb), .val (.int xat), .val (.ref rw), .val (.int (3 : Int32)), .val (.double (FP.dadd (FP.dsub (FP.ddiv y0 (4616189618054758400 : UInt64)) (FP.ddiv x0 (4616189618054758400 : UInt64))) z0)), .second, .val (.int (1 : Int32))] [(.double y1), (.double (FP.dadd (FP.dsub (FP.ddiv y0 (4616189618054758400 : UInt64)) (FP.ddiv x0 (4616189618054758400 : UInt64))) z0))]))
  refine own_Go.st (fun _ kt => X0.ldc2DoubleC hx hown (mvT hZ (hw _ (List.mem_of_getElem? (i := 32) rfl))) (g := (mkF m 45 #[.val (.ref rb), .val (.int xat), .val (.ref rw), .val (.int (3 : Int32)), .val (.double (FP.dadd (FP.dsub (FP.ddiv y0 (4616189618054758400 : UInt64)) (FP.ddiv x0 (4616189618054758400 : UInt64))) z0)), .second, .val (.int (1 : Int32))] [(.double y1), (.double (FP.dadd (FP.dsub (FP.ddiv y0 (4616189618054758400 : UInt64)) (FP.ddiv x0 (4616189618054758400 : UInt64))) z0))])) rfl (hb hby own_d_prog_62_14_45) _ kt) ?_
  show own_Go p e below _ (s₁.setTop (mkF m 48 #[.val (.ref rb), .val (.int xat), .val (.ref rw), .val (.int (3 : Int32)), .val (.double (FP.dadd (FP.dsub (FP.ddiv y0 (4616189618054758400 : UInt64)) (FP.ddiv x0 (4616189618054758400 : UInt64))) z0)), .second, .val (.int (1 : Int32))] [(.double (4616189618054758400 : UInt64)), (.double y1), (.double (FP.dadd (FP.dsub (FP.ddiv y0 (4616189618054758400 : UInt64)) (FP.ddiv x0 (4616189618054758400 : UInt64))) z0))]))
  refine own_Go.st (fun _ kt => XS.ddivS X0.here hx rfl (hb hby own_d_prog_62_14_48) rfl (du1.n64) rfl kt) ?_
  show own_Go p e below _ (s₁.setTop (mkF m 49 #[.val (.ref rb), .val (.int xat), .val (.ref rw), .val (.int (3 : Int32)), .val (.double (FP.dadd (FP.dsub (FP.ddiv y0 (4616189618054758400 : UInt64)) (FP.ddiv x0 (4616189618054758400 : UInt64))) z0)), .second, .val (.int (1 : Int32))] [(.double (FP.ddiv y1 (4616189618054758400 : UInt64))), (.double (FP.dadd (FP.dsub (FP.ddiv y0 (4616189618054758400 : UInt64)) (FP.ddiv x0 (4616189618054758400 : UInt64))) z0))]))
  refine own_Go.st (fun _ kt => XS.aloadN X0.here hx rfl (hb hby own_d_prog_62_14_49) rfl rfl kt) ?_
  show own_Go p e below _ (s₁.setTop (mkF m 50 #[.val (.ref rb), .val (.int xat), .val (.ref rw), .val (.int (3 : Int32)), .val (.double (FP.dadd (FP.dsub (FP.ddiv y0 (4616189618054758400 : UInt64)) (FP.ddiv x0 (4616189618054758400 : UInt64))) z0)), .second, .val (.int (1 : Int32))] [(.ref rb), (.double (FP.ddiv y1 (4616189618054758400 : UInt64))), (.double (FP.dadd (FP.dsub (FP.ddiv y0 (4616189618054758400 : UInt64)) (FP.ddiv x0 (4616189618054758400 : UInt64))) z0))]))
  refine own_Go.st (fun _ kt => XS.iloadN X0.here hx rfl (hb hby own_d_prog_62_14_50) rfl kt) ?_
  show own_Go p e below _ (s₁.setTop (mkF m 51 #[.val (.ref rb), .val (.int xat), .val (.ref rw), .val (.int (3 : Int32)), .val (.double (FP.dadd (FP.dsub (FP.ddiv y0 (4616189618054758400 : UInt64)) (FP.ddiv x0 (4616189618054758400 : UInt64))) z0)), .second, .val (.int (1 : Int32))] [(.int xat), (.ref rb), (.double (FP.ddiv y1 (4616189618054758400 : UInt64))), (.double (FP.dadd (FP.dsub (FP.ddiv y0 (4616189618054758400 : UInt64)) (FP.ddiv x0 (4616189618054758400 : UInt64))) z0))]))
  refine own_Go.st (fun _ kt => XS.iload X0.here hx rfl (hb hby own_d_prog_62_14_51) rfl kt) ?_
  show own_Go p e below _ (s₁.setTop (mkF m 53 #[.val (.ref rb), .val (.int xat), .val (.ref rw), .val (.int (3 : Int32)), .val (.double (FP.dadd (FP.dsub (FP.ddiv y0 (4616189618054758400 : UInt64)) (FP.ddiv x0 (4616189618054758400 : UInt64))) z0)), .second, .val (.int (1 : Int32))] [(.int (1 : Int32)), (.int xat), (.ref rb), (.double (FP.ddiv y1 (4616189618054758400 : UInt64))), (.double (FP.dadd (FP.dsub (FP.ddiv y0 (4616189618054758400 : UInt64)) (FP.ddiv x0 (4616189618054758400 : UInt64))) z0))]))
  refine own_Go.st (fun _ kt => XS.iadd X0.here hx rfl (hb hby own_d_prog_62_14_53) rfl kt) ?_
  show own_Go p e below _ (s₁.setTop (mkF m 54 #[.val (.ref rb), .val (.int xat), .val (.ref rw), .val (.int (3 : Int32)), .val (.double (FP.dadd (FP.dsub (FP.ddiv y0 (4616189618054758400 : UInt64)) (FP.ddiv x0 (4616189618054758400 : UInt64))) z0)), .second, .val (.int (1 : Int32))] [(.int (xat + (1 : Int32))), (.ref rb), (.double (FP.ddiv y1 (4616189618054758400 : UInt64))), (.double (FP.dadd (FP.dsub (FP.ddiv y0 (4616189618054758400 : UInt64)) (FP.ddiv x0 (4616189618054758400 : UInt64))) z0))]))
  refine own_Go.st (fun _ kt => own_dld X0 hx hZ e0 ab (own_addn hat (e := 1) (by decide) (by omega) (by decide)) (by omega) (v := (.double x1)) fx1 (g := (mkF m 54 #[.val (.ref rb), .val (.int xat), .val (.ref rw), .val (.int (3 : Int32)), .val (.double (FP.dadd (FP.dsub (FP.ddiv y0 (4616189618054758400 : UInt64)) (FP.ddiv x0 (4616189618054758400 : UInt64))) z0)), .second, .val (.int (1 : Int32))] [(.int (xat + (1 : Int32))), (.ref rb), (.double (FP.ddiv y1 (4616189618054758400 : UInt64))), (.double (FP.dadd (FP.dsub (FP.ddiv y0 (4616189618054758400 : UInt64)) (FP.ddiv x0 (4616189618054758400 : UInt64))) z0))])) rfl rfl (hb hby own_d_prog_62_14_54) _ kt) ?_
  show own_Go p e below _ (s₁.setTop (mkF m 55 #[.val (.ref rb), .val (.int xat), .val (.ref rw), .val (.int (3 : Int32)), .val (.double (FP.dadd (FP.dsub (FP.ddiv y0 (4616189618054758400 : UInt64)) (FP.ddiv x0 (4616189618054758400 : UInt64))) z0)), .second, .val (.int (1 : Int32))] [(.double x1), (.double (FP.ddiv y1 (4616189618054758400 : UInt64))), (.double (FP.dadd (FP.dsub (FP.ddiv y0 (4616189618054758400 : UInt64)) (FP.ddiv x0 (4616189618054758400 : UInt64))) z0))]))
  refine own_Go.st (fun _ kt => X0.ldc2DoubleC hx hown (mvT hZ (hw _ (List.mem_of_getElem? (i := 32) rfl))) (g := (mkF m 55 #[.val (.ref rb), .val (.int xat), .val (.ref rw), .val (.int (3 : Int32)), .val (.double (FP.dadd (FP.dsub (FP.ddiv y0 (4616189618054758400 : UInt64)) (FP.ddiv x0 (4616189618054758400 : UInt64))) z0)), .second, .val (.int (1 : Int32))] [(.double x1), (.double (FP.ddiv y1 (4616189618054758400 : UInt64))), (.double (FP.dadd (FP.dsub (FP.ddiv y0 (4616189618054758400 : UInt64)) (FP.ddiv x0 (4616189618054758400 : UInt64))) z0))])) rfl (hb hby own_d_prog_62_14_55) _ kt) ?_
  show own_Go p e below _ (s₁.setTop (mkF m 58 #[.val (.ref rb), .val (.int xat), .val (.ref rw), .val (.int (3 : Int32)), .val (.double (FP.dadd (FP.dsub (FP.ddiv y0 (4616189618054758400 : UInt64)) (FP.ddiv x0 (4616189618054758400 : UInt64))) z0)), .second, .val (.int (1 : Int32))] [(.double (4616189618054758400 : UInt64)), (.double x1), (.double (FP.ddiv y1 (4616189618054758400 : UInt64))), (.double (FP.dadd (FP.dsub (FP.ddiv y0 (4616189618054758400 : UInt64)) (FP.ddiv x0 (4616189618054758400 : UInt64))) z0))]))
  refine own_Go.st (fun _ kt => XS.ddivS X0.here hx rfl (hb hby own_d_prog_62_14_58) rfl (dv1.n64) rfl kt) ?_
  show own_Go p e below _ (s₁.setTop (mkF m 59 #[.val (.ref rb), .val (.int xat), .val (.ref rw), .val (.int (3 : Int32)), .val (.double (FP.dadd (FP.dsub (FP.ddiv y0 (4616189618054758400 : UInt64)) (FP.ddiv x0 (4616189618054758400 : UInt64))) z0)), .second, .val (.int (1 : Int32))] [(.double (FP.ddiv x1 (4616189618054758400 : UInt64))), (.double (FP.ddiv y1 (4616189618054758400 : UInt64))), (.double (FP.dadd (FP.dsub (FP.ddiv y0 (4616189618054758400 : UInt64)) (FP.ddiv x0 (4616189618054758400 : UInt64))) z0))]))
  refine own_Go.st (fun _ kt => XS.dsubS X0.here hx rfl (hb hby own_d_prog_62_14_59) rfl (dw1.n64) rfl kt) ?_
  show own_Go p e below _ (s₁.setTop (mkF m 60 #[.val (.ref rb), .val (.int xat), .val (.ref rw), .val (.int (3 : Int32)), .val (.double (FP.dadd (FP.dsub (FP.ddiv y0 (4616189618054758400 : UInt64)) (FP.ddiv x0 (4616189618054758400 : UInt64))) z0)), .second, .val (.int (1 : Int32))] [(.double (FP.dsub (FP.ddiv y1 (4616189618054758400 : UInt64)) (FP.ddiv x1 (4616189618054758400 : UInt64)))), (.double (FP.dadd (FP.dsub (FP.ddiv y0 (4616189618054758400 : UInt64)) (FP.ddiv x0 (4616189618054758400 : UInt64))) z0))]))
  refine own_Go.st (fun _ kt => XS.aloadN X0.here hx rfl (hb hby own_d_prog_62_14_60) rfl rfl kt) ?_
  show own_Go p e below _ (s₁.setTop (mkF m 61 #[.val (.ref rb), .val (.int xat), .val (.ref rw), .val (.int (3 : Int32)), .val (.double (FP.dadd (FP.dsub (FP.ddiv y0 (4616189618054758400 : UInt64)) (FP.ddiv x0 (4616189618054758400 : UInt64))) z0)), .second, .val (.int (1 : Int32))] [(.ref rw), (.double (FP.dsub (FP.ddiv y1 (4616189618054758400 : UInt64)) (FP.ddiv x1 (4616189618054758400 : UInt64)))), (.double (FP.dadd (FP.dsub (FP.ddiv y0 (4616189618054758400 : UInt64)) (FP.ddiv x0 (4616189618054758400 : UInt64))) z0))]))
  refine own_Go.st (fun _ kt => XS.iload X0.here hx rfl (hb hby own_d_prog_62_14_61) rfl kt) ?_
  show own_Go p e below _ (s₁.setTop (mkF m 63 #[.val (.ref rb), .val (.int xat), .val (.ref rw), .val (.int (3 : Int32)), .val (.double (FP.dadd (FP.dsub (FP.ddiv y0 (4616189618054758400 : UInt64)) (FP.ddiv x0 (4616189618054758400 : UInt64))) z0)), .second, .val (.int (1 : Int32))] [(.int (1 : Int32)), (.ref rw), (.double (FP.dsub (FP.ddiv y1 (4616189618054758400 : UInt64)) (FP.ddiv x1 (4616189618054758400 : UInt64)))), (.double (FP.dadd (FP.dsub (FP.ddiv y0 (4616189618054758400 : UInt64)) (FP.ddiv x0 (4616189618054758400 : UInt64))) z0))]))
  refine own_Go.st (fun _ kt => own_dld X0 hx hZ e0 aw (i := 1) (by decide) (by decide) (v := (.double z1)) fz1 (g := (mkF m 63 #[.val (.ref rb), .val (.int xat), .val (.ref rw), .val (.int (3 : Int32)), .val (.double (FP.dadd (FP.dsub (FP.ddiv y0 (4616189618054758400 : UInt64)) (FP.ddiv x0 (4616189618054758400 : UInt64))) z0)), .second, .val (.int (1 : Int32))] [(.int (1 : Int32)), (.ref rw), (.double (FP.dsub (FP.ddiv y1 (4616189618054758400 : UInt64)) (FP.ddiv x1 (4616189618054758400 : UInt64)))), (.double (FP.dadd (FP.dsub (FP.ddiv y0 (4616189618054758400 : UInt64)) (FP.ddiv x0 (4616189618054758400 : UInt64))) z0))])) rfl rfl (hb hby own_d_prog_62_14_63) _ kt) ?_
  show own_Go p e below _ (s₁.setTop (mkF m 64 #[.val (.ref rb), .val (.int xat), .val (.ref rw), .val (.int (3 : Int32)), .val (.double (FP.dadd (FP.dsub (FP.ddiv y0 (4616189618054758400 : UInt64)) (FP.ddiv x0 (4616189618054758400 : UInt64))) z0)), .second, .val (.int (1 : Int32))] [(.double z1), (.double (FP.dsub (FP.ddiv y1 (4616189618054758400 : UInt64)) (FP.ddiv x1 (4616189618054758400 : UInt64)))), (.double (FP.dadd (FP.dsub (FP.ddiv y0 (4616189618054758400 : UInt64)) (FP.ddiv x0 (4616189618054758400 : UInt64))) z0))]))
  refine own_Go.st (fun _ kt => XS.daddS X0.here hx rfl (hb hby own_d_prog_62_14_64) rfl (dx1.n64) rfl kt) ?_
  show own_Go p e below _ (s₁.setTop (mkF m 65 #[.val (.ref rb), .val (.int xat), .val (.ref rw), .val (.int (3 : Int32)), .val (.double (FP.dadd (FP.dsub (FP.ddiv y0 (4616189618054758400 : UInt64)) (FP.ddiv x0 (4616189618054758400 : UInt64))) z0)), .second, .val (.int (1 : Int32))] [(.double (FP.dadd (FP.dsub (FP.ddiv y1 (4616189618054758400 : UInt64)) (FP.ddiv x1 (4616189618054758400 : UInt64))) z1)), (.double (FP.dadd (FP.dsub (FP.ddiv y0 (4616189618054758400 : UInt64)) (FP.ddiv x0 (4616189618054758400 : UInt64))) z0))]))
  have m1 := own_mulP dx0 dx1 hD1 r1
  refine own_Go.st (fun _ kt => XS.dmulS X0.here hx rfl (hb hby own_d_prog_62_14_65) rfl (m1.n64) rfl kt) ?_
  show own_Go p e below _ (s₁.setTop (mkF m 66 #[.val (.ref rb), .val (.int xat), .val (.ref rw), .val (.int (3 : Int32)), .val (.double (FP.dadd (FP.dsub (FP.ddiv y0 (4616189618054758400 : UInt64)) (FP.ddiv x0 (4616189618054758400 : UInt64))) z0)), .second, .val (.int (1 : Int32))] [(.double (FP.dmul (FP.dadd (FP.dsub (FP.ddiv y0 (4616189618054758400 : UInt64)) (FP.ddiv x0 (4616189618054758400 : UInt64))) z0) (FP.dadd (FP.dsub (FP.ddiv y1 (4616189618054758400 : UInt64)) (FP.ddiv x1 (4616189618054758400 : UInt64))) z1)))]))
  refine own_Go.st (fun _ kt => XS.dstore X0.here hx rfl (hb hby own_d_prog_62_14_66) rfl (l' := #[.val (.ref rb), .val (.int xat), .val (.ref rw), .val (.int (3 : Int32)), .val (.double (FP.dmul (FP.dadd (FP.dsub (FP.ddiv y0 (4616189618054758400 : UInt64)) (FP.ddiv x0 (4616189618054758400 : UInt64))) z0) (FP.dadd (FP.dsub (FP.ddiv y1 (4616189618054758400 : UInt64)) (FP.ddiv x1 (4616189618054758400 : UInt64))) z1))), .second, .val (.int (1 : Int32))]) rfl kt) ?_
  show own_Go p e below _ (s₁.setTop (mkF m 68 #[.val (.ref rb), .val (.int xat), .val (.ref rw), .val (.int (3 : Int32)), .val (.double (FP.dmul (FP.dadd (FP.dsub (FP.ddiv y0 (4616189618054758400 : UInt64)) (FP.ddiv x0 (4616189618054758400 : UInt64))) z0) (FP.dadd (FP.dsub (FP.ddiv y1 (4616189618054758400 : UInt64)) (FP.ddiv x1 (4616189618054758400 : UInt64))) z1))), .second, .val (.int (1 : Int32))] []))
  refine own_Go.st (fun _ kt => XS.iinc X0.here hx rfl (hb hby own_d_prog_62_14_68) rfl (l' := #[.val (.ref rb), .val (.int xat), .val (.ref rw), .val (.int (3 : Int32)), .val (.double (FP.dmul (FP.dadd (FP.dsub (FP.ddiv y0 (4616189618054758400 : UInt64)) (FP.ddiv x0 (4616189618054758400 : UInt64))) z0) (FP.dadd (FP.dsub (FP.ddiv y1 (4616189618054758400 : UInt64)) (FP.ddiv x1 (4616189618054758400 : UInt64))) z1))), .second, .val (.int ((1 : Int32) + (1 : Int32)))]) rfl kt) ?_
  show own_Go p e below _ (s₁.setTop (mkF m 71 #[.val (.ref rb), .val (.int xat), .val (.ref rw), .val (.int (3 : Int32)), .val (.double (FP.dmul (FP.dadd (FP.dsub (FP.ddiv y0 (4616189618054758400 : UInt64)) (FP.ddiv x0 (4616189618054758400 : UInt64))) z0) (FP.dadd (FP.dsub (FP.ddiv y1 (4616189618054758400 : UInt64)) (FP.ddiv x1 (4616189618054758400 : UInt64))) z1))), .second, .val (.int ((1 : Int32) + (1 : Int32)))] []))
  refine own_Go.st (fun _ kt => XS.goto X0.here hx rfl (pc0 := 71) (pc' := 29) rfl (hb hby own_d_prog_62_14_71) (by decide) (by decide) kt) ?_
  show own_Go p e below _ (s₁.setTop (mkF m 29 #[.val (.ref rb), .val (.int xat), .val (.ref rw), .val (.int (3 : Int32)), .val (.double (FP.dmul (FP.dadd (FP.dsub (FP.ddiv y0 (4616189618054758400 : UInt64)) (FP.ddiv x0 (4616189618054758400 : UInt64))) z0) (FP.dadd (FP.dsub (FP.ddiv y1 (4616189618054758400 : UInt64)) (FP.ddiv x1 (4616189618054758400 : UInt64))) z1))), .second, .val (.int ((1 : Int32) + (1 : Int32)))] []))
  refine own_Go.st (fun _ kt => XS.iload X0.here hx rfl (hb hby own_d_prog_62_14_29) rfl kt) ?_
  show own_Go p e below _ (s₁.setTop (mkF m 31 #[.val (.ref rb), .val (.int xat), .val (.ref rw), .val (.int (3 : Int32)), .val (.double (FP.dmul (FP.dadd (FP.dsub (FP.ddiv y0 (4616189618054758400 : UInt64)) (FP.ddiv x0 (4616189618054758400 : UInt64))) z0) (FP.dadd (FP.dsub (FP.ddiv y1 (4616189618054758400 : UInt64)) (FP.ddiv x1 (4616189618054758400 : UInt64))) z1))), .second, .val (.int ((1 : Int32) + (1 : Int32)))] [(.int ((1 : Int32) + (1 : Int32)))]))
  refine own_Go.st (fun _ kt => XS.iloadN X0.here hx rfl (hb hby own_d_prog_62_14_31) rfl kt) ?_
  show own_Go p e below _ (s₁.setTop (mkF m 32 #[.val (.ref rb), .val (.int xat), .val (.ref rw), .val (.int (3 : Int32)), .val (.double (FP.dmul (FP.dadd (FP.dsub (FP.ddiv y0 (4616189618054758400 : UInt64)) (FP.ddiv x0 (4616189618054758400 : UInt64))) z0) (FP.dadd (FP.dsub (FP.ddiv y1 (4616189618054758400 : UInt64)) (FP.ddiv x1 (4616189618054758400 : UInt64))) z1))), .second, .val (.int ((1 : Int32) + (1 : Int32)))] [(.int (3 : Int32)), (.int ((1 : Int32) + (1 : Int32)))]))
  refine own_Go.st (fun _ kt => XS.icmpNo X0.here hx rfl (hb hby own_d_prog_62_14_32) rfl (tlt (by decide)).2.1 kt) ?_
  show own_Go p e below _ (s₁.setTop (mkF m 35 #[.val (.ref rb), .val (.int xat), .val (.ref rw), .val (.int (3 : Int32)), .val (.double (FP.dmul (FP.dadd (FP.dsub (FP.ddiv y0 (4616189618054758400 : UInt64)) (FP.ddiv x0 (4616189618054758400 : UInt64))) z0) (FP.dadd (FP.dsub (FP.ddiv y1 (4616189618054758400 : UInt64)) (FP.ddiv x1 (4616189618054758400 : UInt64))) z1))), .second, .val (.int ((1 : Int32) + (1 : Int32)))] []))
  refine own_Go.st (fun _ kt => XS.dload X0.here hx rfl (hb hby own_d_prog_62_14_35) rfl kt) ?_
  show own_Go p e below _ (s₁.setTop (mkF m 37 #[.val (.ref rb), .val (.int xat), .val (.ref rw), .val (.int (3 : Int32)), .val (.double (FP.dmul (FP.dadd (FP.dsub (FP.ddiv y0 (4616189618054758400 : UInt64)) (FP.ddiv x0 (4616189618054758400 : UInt64))) z0) (FP.dadd (FP.dsub (FP.ddiv y1 (4616189618054758400 : UInt64)) (FP.ddiv x1 (4616189618054758400 : UInt64))) z1))), .second, .val (.int ((1 : Int32) + (1 : Int32)))] [(.double (FP.dmul (FP.dadd (FP.dsub (FP.ddiv y0 (4616189618054758400 : UInt64)) (FP.ddiv x0 (4616189618054758400 : UInt64))) z0) (FP.dadd (FP.dsub (FP.ddiv y1 (4616189618054758400 : UInt64)) (FP.ddiv x1 (4616189618054758400 : UInt64))) z1)))]))
  refine own_Go.st (fun _ kt => XS.aloadN X0.here hx rfl (hb hby own_d_prog_62_14_37) rfl rfl kt) ?_
  show own_Go p e below _ (s₁.setTop (mkF m 38 #[.val (.ref rb), .val (.int xat), .val (.ref rw), .val (.int (3 : Int32)), .val (.double (FP.dmul (FP.dadd (FP.dsub (FP.ddiv y0 (4616189618054758400 : UInt64)) (FP.ddiv x0 (4616189618054758400 : UInt64))) z0) (FP.dadd (FP.dsub (FP.ddiv y1 (4616189618054758400 : UInt64)) (FP.ddiv x1 (4616189618054758400 : UInt64))) z1))), .second, .val (.int ((1 : Int32) + (1 : Int32)))] [(.ref rb), (.double (FP.dmul (FP.dadd (FP.dsub (FP.ddiv y0 (4616189618054758400 : UInt64)) (FP.ddiv x0 (4616189618054758400 : UInt64))) z0) (FP.dadd (FP.dsub (FP.ddiv y1 (4616189618054758400 : UInt64)) (FP.ddiv x1 (4616189618054758400 : UInt64))) z1)))]))
  refine own_Go.st (fun _ kt => XS.iloadN X0.here hx rfl (hb hby own_d_prog_62_14_38) rfl kt) ?_
  show own_Go p e below _ (s₁.setTop (mkF m 39 #[.val (.ref rb), .val (.int xat), .val (.ref rw), .val (.int (3 : Int32)), .val (.double (FP.dmul (FP.dadd (FP.dsub (FP.ddiv y0 (4616189618054758400 : UInt64)) (FP.ddiv x0 (4616189618054758400 : UInt64))) z0) (FP.dadd (FP.dsub (FP.ddiv y1 (4616189618054758400 : UInt64)) (FP.ddiv x1 (4616189618054758400 : UInt64))) z1))), .second, .val (.int ((1 : Int32) + (1 : Int32)))] [(.int xat), (.ref rb), (.double (FP.dmul (FP.dadd (FP.dsub (FP.ddiv y0 (4616189618054758400 : UInt64)) (FP.ddiv x0 (4616189618054758400 : UInt64))) z0) (FP.dadd (FP.dsub (FP.ddiv y1 (4616189618054758400 : UInt64)) (FP.ddiv x1 (4616189618054758400 : UInt64))) z1)))]))
  refine own_Go.st (fun _ kt => XS.iloadN X0.here hx rfl (hb hby own_d_prog_62_14_39) rfl kt) ?_
  show own_Go p e below _ (s₁.setTop (mkF m 40 #[.val (.ref rb), .val (.int xat), .val (.ref rw), .val (.int (3 : Int32)), .val (.double (FP.dmul (FP.dadd (FP.dsub (FP.ddiv y0 (4616189618054758400 : UInt64)) (FP.ddiv x0 (4616189618054758400 : UInt64))) z0) (FP.dadd (FP.dsub (FP.ddiv y1 (4616189618054758400 : UInt64)) (FP.ddiv x1 (4616189618054758400 : UInt64))) z1))), .second, .val (.int ((1 : Int32) + (1 : Int32)))] [(.int (3 : Int32)), (.int xat), (.ref rb), (.double (FP.dmul (FP.dadd (FP.dsub (FP.ddiv y0 (4616189618054758400 : UInt64)) (FP.ddiv x0 (4616189618054758400 : UInt64))) z0) (FP.dadd (FP.dsub (FP.ddiv y1 (4616189618054758400 : UInt64)) (FP.ddiv x1 (4616189618054758400 : UInt64))) z1)))]))
  refine own_Go.st (fun _ kt => XS.iadd X0.here hx rfl (hb hby own_d_prog_62_14_40) rfl kt) ?_
  show own_Go p e below _ (s₁.setTop (mkF m 41 #[.val (.ref rb), .val (.int xat), .val (.ref rw), .val (.int (3 : Int32)), .val (.double (FP.dmul (FP.dadd (FP.dsub (FP.ddiv y0 (4616189618054758400 : UInt64)) (FP.ddiv x0 (4616189618054758400 : UInt64))) z0) (FP.dadd (FP.dsub (FP.ddiv y1 (4616189618054758400 : UInt64)) (FP.ddiv x1 (4616189618054758400 : UInt64))) z1))), .second, .val (.int ((1 : Int32) + (1 : Int32)))] [(.int (xat + (3 : Int32))), (.ref rb), (.double (FP.dmul (FP.dadd (FP.dsub (FP.ddiv y0 (4616189618054758400 : UInt64)) (FP.ddiv x0 (4616189618054758400 : UInt64))) z0) (FP.dadd (FP.dsub (FP.ddiv y1 (4616189618054758400 : UInt64)) (FP.ddiv x1 (4616189618054758400 : UInt64))) z1)))]))
  refine own_Go.st (fun _ kt => XS.iload X0.here hx rfl (hb hby own_d_prog_62_14_41) rfl kt) ?_
  show own_Go p e below _ (s₁.setTop (mkF m 43 #[.val (.ref rb), .val (.int xat), .val (.ref rw), .val (.int (3 : Int32)), .val (.double (FP.dmul (FP.dadd (FP.dsub (FP.ddiv y0 (4616189618054758400 : UInt64)) (FP.ddiv x0 (4616189618054758400 : UInt64))) z0) (FP.dadd (FP.dsub (FP.ddiv y1 (4616189618054758400 : UInt64)) (FP.ddiv x1 (4616189618054758400 : UInt64))) z1))), .second, .val (.int ((1 : Int32) + (1 : Int32)))] [(.int ((1 : Int32) + (1 : Int32))), (.int (xat + (3 : Int32))), (.ref rb), (.double (FP.dmul (FP.dadd (FP.dsub (FP.ddiv y0 (4616189618054758400 : UInt64)) (FP.ddiv x0 (4616189618054758400 : UInt64))) z0) (FP.dadd (FP.dsub (FP.ddiv y1 (4616189618054758400 : UInt64)) (FP.ddiv x1 (4616189618054758400 : UInt64))) z1)))]))
  refine own_Go.st (fun _ kt => XS.iadd X0.here hx rfl (hb hby own_d_prog_62_14_43) rfl kt) ?_
  show own_Go p e below _ (s₁.setTop (mkF m 44 #[.val (.ref rb), .val (.int xat), .val (.ref rw), .val (.int (3 : Int32)), .val (.double (FP.dmul (FP.dadd (FP.dsub (FP.ddiv y0 (4616189618054758400 : UInt64)) (FP.ddiv x0 (4616189618054758400 : UInt64))) z0) (FP.dadd (FP.dsub (FP.ddiv y1 (4616189618054758400 : UInt64)) (FP.ddiv x1 (4616189618054758400 : UInt64))) z1))), .second, .val (.int ((1 : Int32) + (1 : Int32)))] [(.int ((xat + (3 : Int32)) + ((1 : Int32) + (1 : Int32)))), (.ref rb), (.double (FP.dmul (FP.dadd (FP.dsub (FP.ddiv y0 (4616189618054758400 : UInt64)) (FP.ddiv x0 (4616189618054758400 : UInt64))) z0) (FP.dadd (FP.dsub (FP.ddiv y1 (4616189618054758400 : UInt64)) (FP.ddiv x1 (4616189618054758400 : UInt64))) z1)))]))
  obtain ⟨u2, v2, w2, du2, dv2, dw2, dx2⟩ := own_extent ex2 le2
  refine own_Go.st (fun _ kt => own_dld X0 hx hZ e0 ab (own_addn (own_addn hat (e := 3) (by decide) (by omega) (by decide)) (e := 2) (by decide) (by omega) (by decide)) (by omega) (v := (.double y2)) fy2 (g := (mkF m 44 #[.val (.ref rb), .val (.int xat), .val (.ref rw), .val (.int (3 : Int32)), .val (.double (FP.dmul (FP.dadd (FP.dsub (FP.ddiv y0 (4616189618054758400 : UInt64)) (FP.ddiv x0 (4616189618054758400 : UInt64))) z0) (FP.dadd (FP.dsub (FP.ddiv y1 (4616189618054758400 : UInt64)) (FP.ddiv x1 (4616189618054758400 : UInt64))) z1))), .second, .val (.int ((1 : Int32) + (1 : Int32)))] [(.int ((xat + (3 : Int32)) + ((1 : Int32) + (1 : Int32)))), (.ref rb), (.double (FP.dmul (FP.dadd (FP.dsub (FP.ddiv y0 (4616189618054758400 : UInt64)) (FP.ddiv x0 (4616189618054758400 : UInt64))) z0) (FP.dadd (FP.dsub (FP.ddiv y1 (4616189618054758400 : UInt64)) (FP.ddiv x1 (4616189618054758400 : UInt64))) z1)))])) rfl rfl (hb hby own_d_prog_62_14_44) _ kt) ?_
  show own_Go p e below _ (s₁.setTop (mkF m 45 #[.val (.ref rb), .val (.int xat), .val (.ref rw), .val (.int (3 : Int32)), .val (.double (FP.dmul (FP.dadd (FP.dsub (FP.ddiv y0 (4616189618054758400 : UInt64)) (FP.ddiv x0 (4616189618054758400 : UInt64))) z0) (FP.dadd (FP.dsub (FP.ddiv y1 (4616189618054758400 : UInt64)) (FP.ddiv x1 (4616189618054758400 : UInt64))) z1))), .second, .val (.int ((1 : Int32) + (1 : Int32)))] [(.double y2), (.double (FP.dmul (FP.dadd (FP.dsub (FP.ddiv y0 (4616189618054758400 : UInt64)) (FP.ddiv x0 (4616189618054758400 : UInt64))) z0) (FP.dadd (FP.dsub (FP.ddiv y1 (4616189618054758400 : UInt64)) (FP.ddiv x1 (4616189618054758400 : UInt64))) z1)))]))
  refine own_Go.st (fun _ kt => X0.ldc2DoubleC hx hown (mvT hZ (hw _ (List.mem_of_getElem? (i := 32) rfl))) (g := (mkF m 45 #[.val (.ref rb), .val (.int xat), .val (.ref rw), .val (.int (3 : Int32)), .val (.double (FP.dmul (FP.dadd (FP.dsub (FP.ddiv y0 (4616189618054758400 : UInt64)) (FP.ddiv x0 (4616189618054758400 : UInt64))) z0) (FP.dadd (FP.dsub (FP.ddiv y1 (4616189618054758400 : UInt64)) (FP.ddiv x1 (4616189618054758400 : UInt64))) z1))), .second, .val (.int ((1 : Int32) + (1 : Int32)))] [(.double y2), (.double (FP.dmul (FP.dadd (FP.dsub (FP.ddiv y0 (4616189618054758400 : UInt64)) (FP.ddiv x0 (4616189618054758400 : UInt64))) z0) (FP.dadd (FP.dsub (FP.ddiv y1 (4616189618054758400 : UInt64)) (FP.ddiv x1 (4616189618054758400 : UInt64))) z1)))])) rfl (hb hby own_d_prog_62_14_45) _ kt) ?_
  show own_Go p e below _ (s₁.setTop (mkF m 48 #[.val (.ref rb), .val (.int xat), .val (.ref rw), .val (.int (3 : Int32)), .val (.double (FP.dmul (FP.dadd (FP.dsub (FP.ddiv y0 (4616189618054758400 : UInt64)) (FP.ddiv x0 (4616189618054758400 : UInt64))) z0) (FP.dadd (FP.dsub (FP.ddiv y1 (4616189618054758400 : UInt64)) (FP.ddiv x1 (4616189618054758400 : UInt64))) z1))), .second, .val (.int ((1 : Int32) + (1 : Int32)))] [(.double (4616189618054758400 : UInt64)), (.double y2), (.double (FP.dmul (FP.dadd (FP.dsub (FP.ddiv y0 (4616189618054758400 : UInt64)) (FP.ddiv x0 (4616189618054758400 : UInt64))) z0) (FP.dadd (FP.dsub (FP.ddiv y1 (4616189618054758400 : UInt64)) (FP.ddiv x1 (4616189618054758400 : UInt64))) z1)))]))
  refine own_Go.st (fun _ kt => XS.ddivS X0.here hx rfl (hb hby own_d_prog_62_14_48) rfl (du2.n64) rfl kt) ?_
  show own_Go p e below _ (s₁.setTop (mkF m 49 #[.val (.ref rb), .val (.int xat), .val (.ref rw), .val (.int (3 : Int32)), .val (.double (FP.dmul (FP.dadd (FP.dsub (FP.ddiv y0 (4616189618054758400 : UInt64)) (FP.ddiv x0 (4616189618054758400 : UInt64))) z0) (FP.dadd (FP.dsub (FP.ddiv y1 (4616189618054758400 : UInt64)) (FP.ddiv x1 (4616189618054758400 : UInt64))) z1))), .second, .val (.int ((1 : Int32) + (1 : Int32)))] [(.double (FP.ddiv y2 (4616189618054758400 : UInt64))), (.double (FP.dmul (FP.dadd (FP.dsub (FP.ddiv y0 (4616189618054758400 : UInt64)) (FP.ddiv x0 (4616189618054758400 : UInt64))) z0) (FP.dadd (FP.dsub (FP.ddiv y1 (4616189618054758400 : UInt64)) (FP.ddiv x1 (4616189618054758400 : UInt64))) z1)))]))
  refine own_Go.st (fun _ kt => XS.aloadN X0.here hx rfl (hb hby own_d_prog_62_14_49) rfl rfl kt) ?_
  show own_Go p e below _ (s₁.setTop (mkF m 50 #[.val (.ref rb), .val (.int xat), .val (.ref rw), .val (.int (3 : Int32)), .val (.double (FP.dmul (FP.dadd (FP.dsub (FP.ddiv y0 (4616189618054758400 : UInt64)) (FP.ddiv x0 (4616189618054758400 : UInt64))) z0) (FP.dadd (FP.dsub (FP.ddiv y1 (4616189618054758400 : UInt64)) (FP.ddiv x1 (4616189618054758400 : UInt64))) z1))), .second, .val (.int ((1 : Int32) + (1 : Int32)))] [(.ref rb), (.double (FP.ddiv y2 (4616189618054758400 : UInt64))), (.double (FP.dmul (FP.dadd (FP.dsub (FP.ddiv y0 (4616189618054758400 : UInt64)) (FP.ddiv x0 (4616189618054758400 : UInt64))) z0) (FP.dadd (FP.dsub (FP.ddiv y1 (4616189618054758400 : UInt64)) (FP.ddiv x1 (4616189618054758400 : UInt64))) z1)))]))
  refine own_Go.st (fun _ kt => XS.iloadN X0.here hx rfl (hb hby own_d_prog_62_14_50) rfl kt) ?_
  show own_Go p e below _ (s₁.setTop (mkF m 51 #[.val (.ref rb), .val (.int xat), .val (.ref rw), .val (.int (3 : Int32)), .val (.double (FP.dmul (FP.dadd (FP.dsub (FP.ddiv y0 (4616189618054758400 : UInt64)) (FP.ddiv x0 (4616189618054758400 : UInt64))) z0) (FP.dadd (FP.dsub (FP.ddiv y1 (4616189618054758400 : UInt64)) (FP.ddiv x1 (4616189618054758400 : UInt64))) z1))), .second, .val (.int ((1 : Int32) + (1 : Int32)))] [(.int xat), (.ref rb), (.double (FP.ddiv y2 (4616189618054758400 : UInt64))), (.double (FP.dmul (FP.dadd (FP.dsub (FP.ddiv y0 (4616189618054758400 : UInt64)) (FP.ddiv x0 (4616189618054758400 : UInt64))) z0) (FP.dadd (FP.dsub (FP.ddiv y1 (4616189618054758400 : UInt64)) (FP.ddiv x1 (4616189618054758400 : UInt64))) z1)))]))
  refine own_Go.st (fun _ kt => XS.iload X0.here hx rfl (hb hby own_d_prog_62_14_51) rfl kt) ?_
  show own_Go p e below _ (s₁.setTop (mkF m 53 #[.val (.ref rb), .val (.int xat), .val (.ref rw), .val (.int (3 : Int32)), .val (.double (FP.dmul (FP.dadd (FP.dsub (FP.ddiv y0 (4616189618054758400 : UInt64)) (FP.ddiv x0 (4616189618054758400 : UInt64))) z0) (FP.dadd (FP.dsub (FP.ddiv y1 (4616189618054758400 : UInt64)) (FP.ddiv x1 (4616189618054758400 : UInt64))) z1))), .second, .val (.int ((1 : Int32) + (1 : Int32)))] [(.int ((1 : Int32) + (1 : Int32))), (.int xat), (.ref rb), (.double (FP.ddiv y2 (4616189618054758400 : UInt64))), (.double (FP.dmul (FP.dadd (FP.dsub (FP.ddiv y0 (4616189618054758400 : UInt64)) (FP.ddiv x0 (4616189618054758400 : UInt64))) z0) (FP.dadd (FP.dsub (FP.ddiv y1 (4616189618054758400 : UInt64)) (FP.ddiv x1 (4616189618054758400 : UInt64))) z1)))]))
  refine own_Go.st (fun _ kt => XS.iadd X0.here hx rfl (hb hby own_d_prog_62_14_53) rfl kt) ?_
  show own_Go p e below _ (s₁.setTop (mkF m 54 #[.val (.ref rb), .val (.int xat), .val (.ref rw), .val (.int (3 : Int32)), .val (.double (FP.dmul (FP.dadd (FP.dsub (FP.ddiv y0 (4616189618054758400 : UInt64)) (FP.ddiv x0 (4616189618054758400 : UInt64))) z0) (FP.dadd (FP.dsub (FP.ddiv y1 (4616189618054758400 : UInt64)) (FP.ddiv x1 (4616189618054758400 : UInt64))) z1))), .second, .val (.int ((1 : Int32) + (1 : Int32)))] [(.int (xat + ((1 : Int32) + (1 : Int32)))), (.ref rb), (.double (FP.ddiv y2 (4616189618054758400 : UInt64))), (.double (FP.dmul (FP.dadd (FP.dsub (FP.ddiv y0 (4616189618054758400 : UInt64)) (FP.ddiv x0 (4616189618054758400 : UInt64))) z0) (FP.dadd (FP.dsub (FP.ddiv y1 (4616189618054758400 : UInt64)) (FP.ddiv x1 (4616189618054758400 : UInt64))) z1)))]))
  refine own_Go.st (fun _ kt => own_dld X0 hx hZ e0 ab (own_addn hat (e := 2) (by decide) (by omega) (by decide)) (by omega) (v := (.double x2)) fx2 (g := (mkF m 54 #[.val (.ref rb), .val (.int xat), .val (.ref rw), .val (.int (3 : Int32)), .val (.double (FP.dmul (FP.dadd (FP.dsub (FP.ddiv y0 (4616189618054758400 : UInt64)) (FP.ddiv x0 (4616189618054758400 : UInt64))) z0) (FP.dadd (FP.dsub (FP.ddiv y1 (4616189618054758400 : UInt64)) (FP.ddiv x1 (4616189618054758400 : UInt64))) z1))), .second, .val (.int ((1 : Int32) + (1 : Int32)))] [(.int (xat + ((1 : Int32) + (1 : Int32)))), (.ref rb), (.double (FP.ddiv y2 (4616189618054758400 : UInt64))), (.double (FP.dmul (FP.dadd (FP.dsub (FP.ddiv y0 (4616189618054758400 : UInt64)) (FP.ddiv x0 (4616189618054758400 : UInt64))) z0) (FP.dadd (FP.dsub (FP.ddiv y1 (4616189618054758400 : UInt64)) (FP.ddiv x1 (4616189618054758400 : UInt64))) z1)))])) rfl rfl (hb hby own_d_prog_62_14_54) _ kt) ?_
  show own_Go p e below _ (s₁.setTop (mkF m 55 #[.val (.ref rb), .val (.int xat), .val (.ref rw), .val (.int (3 : Int32)), .val (.double (FP.dmul (FP.dadd (FP.dsub (FP.ddiv y0 (4616189618054758400 : UInt64)) (FP.ddiv x0 (4616189618054758400 : UInt64))) z0) (FP.dadd (FP.dsub (FP.ddiv y1 (4616189618054758400 : UInt64)) (FP.ddiv x1 (4616189618054758400 : UInt64))) z1))), .second, .val (.int ((1 : Int32) + (1 : Int32)))] [(.double x2), (.double (FP.ddiv y2 (4616189618054758400 : UInt64))), (.double (FP.dmul (FP.dadd (FP.dsub (FP.ddiv y0 (4616189618054758400 : UInt64)) (FP.ddiv x0 (4616189618054758400 : UInt64))) z0) (FP.dadd (FP.dsub (FP.ddiv y1 (4616189618054758400 : UInt64)) (FP.ddiv x1 (4616189618054758400 : UInt64))) z1)))]))
  refine own_Go.st (fun _ kt => X0.ldc2DoubleC hx hown (mvT hZ (hw _ (List.mem_of_getElem? (i := 32) rfl))) (g := (mkF m 55 #[.val (.ref rb), .val (.int xat), .val (.ref rw), .val (.int (3 : Int32)), .val (.double (FP.dmul (FP.dadd (FP.dsub (FP.ddiv y0 (4616189618054758400 : UInt64)) (FP.ddiv x0 (4616189618054758400 : UInt64))) z0) (FP.dadd (FP.dsub (FP.ddiv y1 (4616189618054758400 : UInt64)) (FP.ddiv x1 (4616189618054758400 : UInt64))) z1))), .second, .val (.int ((1 : Int32) + (1 : Int32)))] [(.double x2), (.double (FP.ddiv y2 (4616189618054758400 : UInt64))), (.double (FP.dmul (FP.dadd (FP.dsub (FP.ddiv y0 (4616189618054758400 : UInt64)) (FP.ddiv x0 (4616189618054758400 : UInt64))) z0) (FP.dadd (FP.dsub (FP.ddiv y1 (4616189618054758400 : UInt64)) (FP.ddiv x1 (4616189618054758400 : UInt64))) z1)))])) rfl (hb hby own_d_prog_62_14_55) _ kt) ?_
  show own_Go p e below _ (s₁.setTop (mkF m 58 #[.val (.ref rb), .val (.int xat), .val (.ref rw), .val (.int (3 : Int32)), .val (.double (FP.dmul (FP.dadd (FP.dsub (FP.ddiv y0 (4616189618054758400 : UInt64)) (FP.ddiv x0 (4616189618054758400 : UInt64))) z0) (FP.dadd (FP.dsub (FP.ddiv y1 (4616189618054758400 : UInt64)) (FP.ddiv x1 (4616189618054758400 : UInt64))) z1))), .second, .val (.int ((1 : Int32) + (1 : Int32)))] [(.double (4616189618054758400 : UInt64)), (.double x2), (.double (FP.ddiv y2 (4616189618054758400 : UInt64))), (.double (FP.dmul (FP.dadd (FP.dsub (FP.ddiv y0 (4616189618054758400 : UInt64)) (FP.ddiv x0 (4616189618054758400 : UInt64))) z0) (FP.dadd (FP.dsub (FP.ddiv y1 (4616189618054758400 : UInt64)) (FP.ddiv x1 (4616189618054758400 : UInt64))) z1)))]))
  refine own_Go.st (fun _ kt => XS.ddivS X0.here hx rfl (hb hby own_d_prog_62_14_58) rfl (dv2.n64) rfl kt) ?_
  show own_Go p e below _ (s₁.setTop (mkF m 59 #[.val (.ref rb), .val (.int xat), .val (.ref rw), .val (.int (3 : Int32)), .val (.double (FP.dmul (FP.dadd (FP.dsub (FP.ddiv y0 (4616189618054758400 : UInt64)) (FP.ddiv x0 (4616189618054758400 : UInt64))) z0) (FP.dadd (FP.dsub (FP.ddiv y1 (4616189618054758400 : UInt64)) (FP.ddiv x1 (4616189618054758400 : UInt64))) z1))), .second, .val (.int ((1 : Int32) + (1 : Int32)))] [(.double (FP.ddiv x2 (4616189618054758400 : UInt64))), (.double (FP.ddiv y2 (4616189618054758400 : UInt64))), (.double (FP.dmul (FP.dadd (FP.dsub (FP.ddiv y0 (4616189618054758400 : UInt64)) (FP.ddiv x0 (4616189618054758400 : UInt64))) z0) (FP.dadd (FP.dsub (FP.ddiv y1 (4616189618054758400 : UInt64)) (FP.ddiv x1 (4616189618054758400 : UInt64))) z1)))]))
  refine own_Go.st (fun _ kt => XS.dsubS X0.here hx rfl (hb hby own_d_prog_62_14_59) rfl (dw2.n64) rfl kt) ?_
  show own_Go p e below _ (s₁.setTop (mkF m 60 #[.val (.ref rb), .val (.int xat), .val (.ref rw), .val (.int (3 : Int32)), .val (.double (FP.dmul (FP.dadd (FP.dsub (FP.ddiv y0 (4616189618054758400 : UInt64)) (FP.ddiv x0 (4616189618054758400 : UInt64))) z0) (FP.dadd (FP.dsub (FP.ddiv y1 (4616189618054758400 : UInt64)) (FP.ddiv x1 (4616189618054758400 : UInt64))) z1))), .second, .val (.int ((1 : Int32) + (1 : Int32)))] [(.double (FP.dsub (FP.ddiv y2 (4616189618054758400 : UInt64)) (FP.ddiv x2 (4616189618054758400 : UInt64)))), (.double (FP.dmul (FP.dadd (FP.dsub (FP.ddiv y0 (4616189618054758400 : UInt64)) (FP.ddiv x0 (4616189618054758400 : UInt64))) z0) (FP.dadd (FP.dsub (FP.ddiv y1 (4616189618054758400 : UInt64)) (FP.ddiv x1 (4616189618054758400 : UInt64))) z1)))]))
  refine own_Go.st (fun _ kt => XS.aloadN X0.here hx rfl (hb hby own_d_prog_62_14_60) rfl rfl kt) ?_
  show own_Go p e below _ (s₁.setTop (mkF m 61 #[.val (.ref rb), .val (.int xat), .val (.ref rw), .val (.int (3 : Int32)), .val (.double (FP.dmul (FP.dadd (FP.dsub (FP.ddiv y0 (4616189618054758400 : UInt64)) (FP.ddiv x0 (4616189618054758400 : UInt64))) z0) (FP.dadd (FP.dsub (FP.ddiv y1 (4616189618054758400 : UInt64)) (FP.ddiv x1 (4616189618054758400 : UInt64))) z1))), .second, .val (.int ((1 : Int32) + (1 : Int32)))] [(.ref rw), (.double (FP.dsub (FP.ddiv y2 (4616189618054758400 : UInt64)) (FP.ddiv x2 (4616189618054758400 : UInt64)))), (.double (FP.dmul (FP.dadd (FP.dsub (FP.ddiv y0 (4616189618054758400 : UInt64)) (FP.ddiv x0 (4616189618054758400 : UInt64))) z0) (FP.dadd (FP.dsub (FP.ddiv y1 (4616189618054758400 : UInt64)) (FP.ddiv x1 (4616189618054758400 : UInt64))) z1)))]))
  refine own_Go.st (fun _ kt => XS.iload X0.here hx rfl (hb hby own_d_prog_62_14_61) rfl kt) ?_
  show own_Go p e below _ (s₁.setTop (mkF m 63 #[.val (.ref rb), .val (.int xat), .val (.ref rw), .val (.int (3 : Int32)), .val (.double (FP.dmul (FP.dadd (FP.dsub (FP.ddiv y0 (4616189618054758400 : UInt64)) (FP.ddiv x0 (4616189618054758400 : UInt64))) z0) (FP.dadd (FP.dsub (FP.ddiv y1 (4616189618054758400 : UInt64)) (FP.ddiv x1 (4616189618054758400 : UInt64))) z1))), .second, .val (.int ((1 : Int32) + (1 : Int32)))] [(.int ((1 : Int32) + (1 : Int32))), (.ref rw), (.double (FP.dsub (FP.ddiv y2 (4616189618054758400 : UInt64)) (FP.ddiv x2 (4616189618054758400 : UInt64)))), (.double (FP.dmul (FP.dadd (FP.dsub (FP.ddiv y0 (4616189618054758400 : UInt64)) (FP.ddiv x0 (4616189618054758400 : UInt64))) z0) (FP.dadd (FP.dsub (FP.ddiv y1 (4616189618054758400 : UInt64)) (FP.ddiv x1 (4616189618054758400 : UInt64))) z1)))]))
  refine own_Go.st (fun _ kt => own_dld X0 hx hZ e0 aw (i := 2) (by decide) (by decide) (v := (.double z2)) fz2 (g := (mkF m 63 #[.val (.ref rb), .val (.int xat), .val (.ref rw), .val (.int (3 : Int32)), .val (.double (FP.dmul (FP.dadd (FP.dsub (FP.ddiv y0 (4616189618054758400 : UInt64)) (FP.ddiv x0 (4616189618054758400 : UInt64))) z0) (FP.dadd (FP.dsub (FP.ddiv y1 (4616189618054758400 : UInt64)) (FP.ddiv x1 (4616189618054758400 : UInt64))) z1))), .second, .val (.int ((1 : Int32) + (1 : Int32)))] [(.int ((1 : Int32) + (1 : Int32))), (.ref rw), (.double (FP.dsub (FP.ddiv y2 (4616189618054758400 : UInt64)) (FP.ddiv x2 (4616189618054758400 : UInt64)))), (.double (FP.dmul (FP.dadd (FP.dsub (FP.ddiv y0 (4616189618054758400 : UInt64)) (FP.ddiv x0 (4616189618054758400 : UInt64))) z0) (FP.dadd (FP.dsub (FP.ddiv y1 (4616189618054758400 : UInt64)) (FP.ddiv x1 (4616189618054758400 : UInt64))) z1)))])) rfl rfl (hb hby own_d_prog_62_14_63) _ kt) ?_
  show own_Go p e below _ (s₁.setTop (mkF m 64 #[.val (.ref rb), .val (.int xat), .val (.ref rw), .val (.int (3 : Int32)), .val (.double (FP.dmul (FP.dadd (FP.dsub (FP.ddiv y0 (4616189618054758400 : UInt64)) (FP.ddiv x0 (4616189618054758400 : UInt64))) z0) (FP.dadd (FP.dsub (FP.ddiv y1 (4616189618054758400 : UInt64)) (FP.ddiv x1 (4616189618054758400 : UInt64))) z1))), .second, .val (.int ((1 : Int32) + (1 : Int32)))] [(.double z2), (.double (FP.dsub (FP.ddiv y2 (4616189618054758400 : UInt64)) (FP.ddiv x2 (4616189618054758400 : UInt64)))), (.double (FP.dmul (FP.dadd (FP.dsub (FP.ddiv y0 (4616189618054758400 : UInt64)) (FP.ddiv x0 (4616189618054758400 : UInt64))) z0) (FP.dadd (FP.dsub (FP.ddiv y1 (4616189618054758400 : UInt64)) (FP.ddiv x1 (4616189618054758400 : UInt64))) z1)))]))
  refine own_Go.st (fun _ kt => XS.daddS X0.here hx rfl (hb hby own_d_prog_62_14_64) rfl (dx2.n64) rfl kt) ?_
  show own_Go p e below _ (s₁.setTop (mkF m 65 #[.val (.ref rb), .val (.int xat), .val (.ref rw), .val (.int (3 : Int32)), .val (.double (FP.dmul (FP.dadd (FP.dsub (FP.ddiv y0 (4616189618054758400 : UInt64)) (FP.ddiv x0 (4616189618054758400 : UInt64))) z0) (FP.dadd (FP.dsub (FP.ddiv y1 (4616189618054758400 : UInt64)) (FP.ddiv x1 (4616189618054758400 : UInt64))) z1))), .second, .val (.int ((1 : Int32) + (1 : Int32)))] [(.double (FP.dadd (FP.dsub (FP.ddiv y2 (4616189618054758400 : UInt64)) (FP.ddiv x2 (4616189618054758400 : UInt64))) z2)), (.double (FP.dmul (FP.dadd (FP.dsub (FP.ddiv y0 (4616189618054758400 : UInt64)) (FP.ddiv x0 (4616189618054758400 : UInt64))) z0) (FP.dadd (FP.dsub (FP.ddiv y1 (4616189618054758400 : UInt64)) (FP.ddiv x1 (4616189618054758400 : UInt64))) z1)))]))
  have m2 := own_mulP m1 dx2 hD2 r2
  refine own_Go.st (fun _ kt => XS.dmulS X0.here hx rfl (hb hby own_d_prog_62_14_65) rfl (m2.n64) rfl kt) ?_
  show own_Go p e below _ (s₁.setTop (mkF m 66 #[.val (.ref rb), .val (.int xat), .val (.ref rw), .val (.int (3 : Int32)), .val (.double (FP.dmul (FP.dadd (FP.dsub (FP.ddiv y0 (4616189618054758400 : UInt64)) (FP.ddiv x0 (4616189618054758400 : UInt64))) z0) (FP.dadd (FP.dsub (FP.ddiv y1 (4616189618054758400 : UInt64)) (FP.ddiv x1 (4616189618054758400 : UInt64))) z1))), .second, .val (.int ((1 : Int32) + (1 : Int32)))] [(.double (FP.dmul (FP.dmul (FP.dadd (FP.dsub (FP.ddiv y0 (4616189618054758400 : UInt64)) (FP.ddiv x0 (4616189618054758400 : UInt64))) z0) (FP.dadd (FP.dsub (FP.ddiv y1 (4616189618054758400 : UInt64)) (FP.ddiv x1 (4616189618054758400 : UInt64))) z1)) (FP.dadd (FP.dsub (FP.ddiv y2 (4616189618054758400 : UInt64)) (FP.ddiv x2 (4616189618054758400 : UInt64))) z2)))]))
  refine own_Go.st (fun _ kt => XS.dstore X0.here hx rfl (hb hby own_d_prog_62_14_66) rfl (l' := #[.val (.ref rb), .val (.int xat), .val (.ref rw), .val (.int (3 : Int32)), .val (.double (FP.dmul (FP.dmul (FP.dadd (FP.dsub (FP.ddiv y0 (4616189618054758400 : UInt64)) (FP.ddiv x0 (4616189618054758400 : UInt64))) z0) (FP.dadd (FP.dsub (FP.ddiv y1 (4616189618054758400 : UInt64)) (FP.ddiv x1 (4616189618054758400 : UInt64))) z1)) (FP.dadd (FP.dsub (FP.ddiv y2 (4616189618054758400 : UInt64)) (FP.ddiv x2 (4616189618054758400 : UInt64))) z2))), .second, .val (.int ((1 : Int32) + (1 : Int32)))]) rfl kt) ?_
  show own_Go p e below _ (s₁.setTop (mkF m 68 #[.val (.ref rb), .val (.int xat), .val (.ref rw), .val (.int (3 : Int32)), .val (.double (FP.dmul (FP.dmul (FP.dadd (FP.dsub (FP.ddiv y0 (4616189618054758400 : UInt64)) (FP.ddiv x0 (4616189618054758400 : UInt64))) z0) (FP.dadd (FP.dsub (FP.ddiv y1 (4616189618054758400 : UInt64)) (FP.ddiv x1 (4616189618054758400 : UInt64))) z1)) (FP.dadd (FP.dsub (FP.ddiv y2 (4616189618054758400 : UInt64)) (FP.ddiv x2 (4616189618054758400 : UInt64))) z2))), .second, .val (.int ((1 : Int32) + (1 : Int32)))] []))
  refine own_Go.st (fun _ kt => XS.iinc X0.here hx rfl (hb hby own_d_prog_62_14_68) rfl (l' := #[.val (.ref rb), .val (.int xat), .val (.ref rw), .val (.int (3 : Int32)), .val (.double (FP.dmul (FP.dmul (FP.dadd (FP.dsub (FP.ddiv y0 (4616189618054758400 : UInt64)) (FP.ddiv x0 (4616189618054758400 : UInt64))) z0) (FP.dadd (FP.dsub (FP.ddiv y1 (4616189618054758400 : UInt64)) (FP.ddiv x1 (4616189618054758400 : UInt64))) z1)) (FP.dadd (FP.dsub (FP.ddiv y2 (4616189618054758400 : UInt64)) (FP.ddiv x2 (4616189618054758400 : UInt64))) z2))), .second, .val (.int (((1 : Int32) + (1 : Int32)) + (1 : Int32)))]) rfl kt) ?_
  show own_Go p e below _ (s₁.setTop (mkF m 71 #[.val (.ref rb), .val (.int xat), .val (.ref rw), .val (.int (3 : Int32)), .val (.double (FP.dmul (FP.dmul (FP.dadd (FP.dsub (FP.ddiv y0 (4616189618054758400 : UInt64)) (FP.ddiv x0 (4616189618054758400 : UInt64))) z0) (FP.dadd (FP.dsub (FP.ddiv y1 (4616189618054758400 : UInt64)) (FP.ddiv x1 (4616189618054758400 : UInt64))) z1)) (FP.dadd (FP.dsub (FP.ddiv y2 (4616189618054758400 : UInt64)) (FP.ddiv x2 (4616189618054758400 : UInt64))) z2))), .second, .val (.int (((1 : Int32) + (1 : Int32)) + (1 : Int32)))] []))
  refine own_Go.st (fun _ kt => XS.goto X0.here hx rfl (pc0 := 71) (pc' := 29) rfl (hb hby own_d_prog_62_14_71) (by decide) (by decide) kt) ?_
  show own_Go p e below _ (s₁.setTop (mkF m 29 #[.val (.ref rb), .val (.int xat), .val (.ref rw), .val (.int (3 : Int32)), .val (.double (FP.dmul (FP.dmul (FP.dadd (FP.dsub (FP.ddiv y0 (4616189618054758400 : UInt64)) (FP.ddiv x0 (4616189618054758400 : UInt64))) z0) (FP.dadd (FP.dsub (FP.ddiv y1 (4616189618054758400 : UInt64)) (FP.ddiv x1 (4616189618054758400 : UInt64))) z1)) (FP.dadd (FP.dsub (FP.ddiv y2 (4616189618054758400 : UInt64)) (FP.ddiv x2 (4616189618054758400 : UInt64))) z2))), .second, .val (.int (((1 : Int32) + (1 : Int32)) + (1 : Int32)))] []))
  refine own_Go.st (fun _ kt => XS.iload X0.here hx rfl (hb hby own_d_prog_62_14_29) rfl kt) ?_
  show own_Go p e below _ (s₁.setTop (mkF m 31 #[.val (.ref rb), .val (.int xat), .val (.ref rw), .val (.int (3 : Int32)), .val (.double (FP.dmul (FP.dmul (FP.dadd (FP.dsub (FP.ddiv y0 (4616189618054758400 : UInt64)) (FP.ddiv x0 (4616189618054758400 : UInt64))) z0) (FP.dadd (FP.dsub (FP.ddiv y1 (4616189618054758400 : UInt64)) (FP.ddiv x1 (4616189618054758400 : UInt64))) z1)) (FP.dadd (FP.dsub (FP.ddiv y2 (4616189618054758400 : UInt64)) (FP.ddiv x2 (4616189618054758400 : UInt64))) z2))), .second, .val (.int (((1 : Int32) + (1 : Int32)) + (1 : Int32)))] [(.int (((1 : Int32) + (1 : Int32)) + (1 : Int32)))]))
  refine own_Go.st (fun _ kt => XS.iloadN X0.here hx rfl (hb hby own_d_prog_62_14_31) rfl kt) ?_
  show own_Go p e below _ (s₁.setTop (mkF m 32 #[.val (.ref rb), .val (.int xat), .val (.ref rw), .val (.int (3 : Int32)), .val (.double (FP.dmul (FP.dmul (FP.dadd (FP.dsub (FP.ddiv y0 (4616189618054758400 : UInt64)) (FP.ddiv x0 (4616189618054758400 : UInt64))) z0) (FP.dadd (FP.dsub (FP.ddiv y1 (4616189618054758400 : UInt64)) (FP.ddiv x1 (4616189618054758400 : UInt64))) z1)) (FP.dadd (FP.dsub (FP.ddiv y2 (4616189618054758400 : UInt64)) (FP.ddiv x2 (4616189618054758400 : UInt64))) z2))), .second, .val (.int (((1 : Int32) + (1 : Int32)) + (1 : Int32)))] [(.int (3 : Int32)), (.int (((1 : Int32) + (1 : Int32)) + (1 : Int32)))]))
  refine own_Go.st (fun _ kt => XS.icmpYes X0.here hx rfl (pc0 := 32) (pc' := 74) rfl (hb hby own_d_prog_62_14_32) rfl (flt (by decide)).2.1 (by decide) (by decide) kt) ?_
  show own_Go p e below _ (s₁.setTop (mkF m 74 #[.val (.ref rb), .val (.int xat), .val (.ref rw), .val (.int (3 : Int32)), .val (.double (FP.dmul (FP.dmul (FP.dadd (FP.dsub (FP.ddiv y0 (4616189618054758400 : UInt64)) (FP.ddiv x0 (4616189618054758400 : UInt64))) z0) (FP.dadd (FP.dsub (FP.ddiv y1 (4616189618054758400 : UInt64)) (FP.ddiv x1 (4616189618054758400 : UInt64))) z1)) (FP.dadd (FP.dsub (FP.ddiv y2 (4616189618054758400 : UInt64)) (FP.ddiv x2 (4616189618054758400 : UInt64))) z2))), .second, .val (.int (((1 : Int32) + (1 : Int32)) + (1 : Int32)))] []))
  refine own_Go.st (fun _ kt => XS.dload X0.here hx rfl (hb hby own_d_prog_62_14_74) rfl kt) ?_
  show own_Go p e below _ (s₁.setTop (mkF m 76 #[.val (.ref rb), .val (.int xat), .val (.ref rw), .val (.int (3 : Int32)), .val (.double (FP.dmul (FP.dmul (FP.dadd (FP.dsub (FP.ddiv y0 (4616189618054758400 : UInt64)) (FP.ddiv x0 (4616189618054758400 : UInt64))) z0) (FP.dadd (FP.dsub (FP.ddiv y1 (4616189618054758400 : UInt64)) (FP.ddiv x1 (4616189618054758400 : UInt64))) z1)) (FP.dadd (FP.dsub (FP.ddiv y2 (4616189618054758400 : UInt64)) (FP.ddiv x2 (4616189618054758400 : UInt64))) z2))), .second, .val (.int (((1 : Int32) + (1 : Int32)) + (1 : Int32)))] [(.double (FP.dmul (FP.dmul (FP.dadd (FP.dsub (FP.ddiv y0 (4616189618054758400 : UInt64)) (FP.ddiv x0 (4616189618054758400 : UInt64))) z0) (FP.dadd (FP.dsub (FP.ddiv y1 (4616189618054758400 : UInt64)) (FP.ddiv x1 (4616189618054758400 : UInt64))) z1)) (FP.dadd (FP.dsub (FP.ddiv y2 (4616189618054758400 : UInt64)) (FP.ddiv x2 (4616189618054758400 : UInt64))) z2)))]))
  exact own_retD X0 hx Bd.notSynchronized Bd.returns (hb hby own_d_prog_62_14_76) (by decide) (by decide) ⟨_, rfl, N0, m2, e0⟩
theorem own_ef8 (m : MethodId) (x0 : Int64) (x1 : Int64) (x2 : Int64) (x3 : Int32) : entryFrame m #[(.long x0), (.long x1), (.long x2), (.int x3)] maxLocals = mkF m 0 #[.val (.long x0), .second, .val (.long x1), .second, .val (.long x2), .second, .val (.int x3), .unset, .unset, .unset, .unset, .unset, .unset, .unset, .unset, .unset, .unset, .unset, .unset, .unset, .unset, .unset, .unset] [] := by first | (simp [entryFrame, mkF, argsToLocals, Value.category, maxLocals]; done) | rfl
theorem own_pd1 : parseMethodDescriptor "(ZII)I" = some ⟨[.boolean, .int, .int], some .int⟩ := by decide +kernel
theorem own_pd2 : parseMethodDescriptor "(JI[DII[DI)J" = some ⟨[.long, .int, (.array .double), .int, .int, (.array .double), .int], some .long⟩ := by decide +kernel
theorem own_pd3 : parseMethodDescriptor "([DI[D)D" = some ⟨[(.array .double), .int, (.array .double)], some .double⟩ := by decide +kernel
def own_Q_own_law (Z : State) (p0 p1 p2 : Int64) (p3 : Int32) (h0 : Heap) (n0 : Nat) (v : Option Value) (h : Heap) (L : List Loc) : Prop := v = some (.int 1) ∧ Fr n0 L
set_option maxRecDepth 65536 in
set_option maxHeartbeats 40000000 in
theorem own_law (l : Launch) (Z : State) (a0 : Array Value) (hw : ∀ d ∈ tables_1, d.before a0 Z = true) (ws : List Jvm.Cond) (p0 p1 p2 : Int64) (p3 : Int32) (h0 : Heap) (n0 : Nat) (Z0 : n0 ≤ h0.size)  :
    MetFree l x (head1 (Jvm.Cond.code x code maxLocals ret :: ws) room_1) (fun av_ U => av_ = #[(.long p0), (.long p1), (.long p2), (.int p3)] ∧ Z.Warmed39 U.vm ∧ U.heap = h0) (fun _ _ _ _ _ => True) (fun _ U o U' => ∃ v L, o = .returned v ∧ own_Q_own_law Z p0 p1 p2 p3 h0 n0 v U'.heap L ∧ FrameEnd U o U' L room_1.cells room_1.slots) := by
  refine MetFree.of_bodySF (plainFor_of_name own_pn0) hisR ?_
  intro p e s m args below meth c s₁ Bd hml0 hP hK
  obtain ⟨rfl, hZ, hh⟩ := hP
  have hx := Bd.exec
  have hby := Bd.bytes
  have hml : c.maxLocals = 23 := hml0
  have hown : s.vm.findClass "com/example/thicket/thicket/PackedLevelGrownVolumePinLaw" = some m.cls := findClass_of_methodNamed Bd.named
  have hnm := (name_of_methodNamed Bd.named Bd.method).1
  have X0 : Stand p l e room_1 s m #[(.long p0), (.long p1), (.long p2), (.int p3)] below meth c s₁ [] 0 0 := Stand.of_body Bd
  have e0 : s₁.heap = h0 := by rw [← hh, Bd.state]; rfl
  have N0 := Fr.nil n0
  suffices hgo : own_Go p e below (fun o U' => ∃ v L, o = .returned v ∧ own_Q_own_law Z p0 p1 p2 p3 h0 n0 v U'.heap L ∧ FrameEnd s o U' L room_1.cells room_1.slots) (s₁.setTop (mkF m 0 #[.val (.long p0), .second, .val (.long p1), .second, .val (.long p2), .second, .val (.int p3), .unset, .unset, .unset, .unset, .unset, .unset, .unset, .unset, .unset, .unset, .unset, .unset, .unset, .unset, .unset, .unset] [])) by
    obtain ⟨s₂, o, h1, h2, h3, h4⟩ := hgo
    exact ⟨s₂, o, castTop (own_ef8 m p0 p1 p2 p3) h1, h2, h3, h4⟩
  show own_Go p e below _ (s₁.setTop (mkF m 0 #[.val (.long p0), .second, .val (.long p1), .second, .val (.long p2), .second, .val (.int p3), .unset, .unset, .unset, .unset, .unset, .unset, .unset, .unset, .unset, .unset, .unset, .unset, .unset, .unset, .unset, .unset] []))
  refine own_Go.st (fun _ kt => XS.iload X0.here hx rfl (hb hby at_0) rfl kt) ?_
  show own_Go p e below _ (s₁.setTop (mkF m 2 #[.val (.long p0), .second, .val (.long p1), .second, .val (.long p2), .second, .val (.int p3), .unset, .unset, .unset, .unset, .unset, .unset, .unset, .unset, .unset, .unset, .unset, .unset, .unset, .unset, .unset, .unset] [(.int p3)]))
  refine own_Go.st (fun _ kt => XS.iconst X0.here hx rfl (hb hby at_2) kt) ?_
  show own_Go p e below _ (s₁.setTop (mkF m 3 #[.val (.long p0), .second, .val (.long p1), .second, .val (.long p2), .second, .val (.int p3), .unset, .unset, .unset, .unset, .unset, .unset, .unset, .unset, .unset, .unset, .unset, .unset, .unset, .unset, .unset, .unset] [(.int (3 : Int32)), (.int p3)]))
  refine own_Go.st (fun _ kt => XS.iand X0.here hx rfl (hb hby at_3) rfl kt) ?_
  show own_Go p e below _ (s₁.setTop (mkF m 4 #[.val (.long p0), .second, .val (.long p1), .second, .val (.long p2), .second, .val (.int p3), .unset, .unset, .unset, .unset, .unset, .unset, .unset, .unset, .unset, .unset, .unset, .unset, .unset, .unset, .unset, .unset] [(.int (p3 &&& (3 : Int32)))]))
  refine own_Go.st (fun _ kt => XS.iconst X0.here hx rfl (hb hby at_4) kt) ?_
  show own_Go p e below _ (s₁.setTop (mkF m 5 #[.val (.long p0), .second, .val (.long p1), .second, .val (.long p2), .second, .val (.int p3), .unset, .unset, .unset, .unset, .unset, .unset, .unset, .unset, .unset, .unset, .unset, .unset, .unset, .unset, .unset, .unset] [(.int (3 : Int32)), (.int (p3 &&& (3 : Int32)))]))
  refine own_Go.st (fun _ kt => Jvm.RoadKit.iremM X0 hx rfl (hb hby at_5) rfl (by decide) kt) ?_
  show own_Go p e below _ (s₁.setTop (mkF m 6 #[.val (.long p0), .second, .val (.long p1), .second, .val (.long p2), .second, .val (.int p3), .unset, .unset, .unset, .unset, .unset, .unset, .unset, .unset, .unset, .unset, .unset, .unset, .unset, .unset, .unset, .unset] [(.int ((p3 &&& (3 : Int32)) % (3 : Int32)))]))
  refine own_Go.st (fun _ kt => XS.iconst X0.here hx rfl (hb hby at_6) kt) ?_
  show own_Go p e below _ (s₁.setTop (mkF m 7 #[.val (.long p0), .second, .val (.long p1), .second, .val (.long p2), .second, .val (.int p3), .unset, .unset, .unset, .unset, .unset, .unset, .unset, .unset, .unset, .unset, .unset, .unset, .unset, .unset, .unset, .unset] [(.int (1 : Int32)), (.int ((p3 &&& (3 : Int32)) % (3 : Int32)))]))
  refine own_Go.st (fun _ kt => XS.iadd X0.here hx rfl (hb hby at_7) rfl kt) ?_
  show own_Go p e below _ (s₁.setTop (mkF m 8 #[.val (.long p0), .second, .val (.long p1), .second, .val (.long p2), .second, .val (.int p3), .unset, .unset, .unset, .unset, .unset, .unset, .unset, .unset, .unset, .unset, .unset, .unset, .unset, .unset, .unset, .unset] [(.int (((p3 &&& (3 : Int32)) % (3 : Int32)) + (1 : Int32)))]))
  have hd := own_dims p3
  generalize (((p3 &&& (3 : Int32)) % (3 : Int32)) + (1 : Int32)) = xd at hd ⊢
  show own_Go p e below _ (s₁.setTop (mkF m 8 #[.val (.long p0), .second, .val (.long p1), .second, .val (.long p2), .second, .val (.int p3), .unset, .unset, .unset, .unset, .unset, .unset, .unset, .unset, .unset, .unset, .unset, .unset, .unset, .unset, .unset, .unset] [(.int xd)]))
  refine own_Go.st (fun _ kt => XS.istore X0.here hx rfl (hb hby at_8) rfl (l' := #[.val (.long p0), .second, .val (.long p1), .second, .val (.long p2), .second, .val (.int p3), .val (.int xd), .unset, .unset, .unset, .unset, .unset, .unset, .unset, .unset, .unset, .unset, .unset, .unset, .unset, .unset, .unset]) rfl kt) ?_
  show own_Go p e below _ (s₁.setTop (mkF m 10 #[.val (.long p0), .second, .val (.long p1), .second, .val (.long p2), .second, .val (.int p3), .val (.int xd), .unset, .unset, .unset, .unset, .unset, .unset, .unset, .unset, .unset, .unset, .unset, .unset, .unset, .unset, .unset] []))
  refine own_Go.st (fun _ kt => XS.iload X0.here hx rfl (hb hby at_10) rfl kt) ?_
  show own_Go p e below _ (s₁.setTop (mkF m 12 #[.val (.long p0), .second, .val (.long p1), .second, .val (.long p2), .second, .val (.int p3), .val (.int xd), .unset, .unset, .unset, .unset, .unset, .unset, .unset, .unset, .unset, .unset, .unset, .unset, .unset, .unset, .unset] [(.int p3)]))
  refine own_Go.st (fun _ kt => XS.iconst X0.here hx rfl (hb hby at_12) kt) ?_
  show own_Go p e below _ (s₁.setTop (mkF m 13 #[.val (.long p0), .second, .val (.long p1), .second, .val (.long p2), .second, .val (.int p3), .val (.int xd), .unset, .unset, .unset, .unset, .unset, .unset, .unset, .unset, .unset, .unset, .unset, .unset, .unset, .unset, .unset] [(.int (2 : Int32)), (.int p3)]))
  refine own_Go.st (fun _ kt => XS.iushr X0.here hx rfl (hb hby at_13) rfl kt) ?_
  show own_Go p e below _ (s₁.setTop (mkF m 14 #[.val (.long p0), .second, .val (.long p1), .second, .val (.long p2), .second, .val (.int p3), .val (.int xd), .unset, .unset, .unset, .unset, .unset, .unset, .unset, .unset, .unset, .unset, .unset, .unset, .unset, .unset, .unset] [(.int ((p3.toUInt32 >>> ((2 : Int32) &&& 31).toUInt32).toInt32))]))
  refine own_Go.st (fun _ kt => XS.iconst X0.here hx rfl (hb hby at_14) kt) ?_
  show own_Go p e below _ (s₁.setTop (mkF m 15 #[.val (.long p0), .second, .val (.long p1), .second, .val (.long p2), .second, .val (.int p3), .val (.int xd), .unset, .unset, .unset, .unset, .unset, .unset, .unset, .unset, .unset, .unset, .unset, .unset, .unset, .unset, .unset] [(.int (3 : Int32)), (.int ((p3.toUInt32 >>> ((2 : Int32) &&& 31).toUInt32).toInt32))]))
  refine own_Go.st (fun _ kt => XS.iand X0.here hx rfl (hb hby at_15) rfl kt) ?_
  show own_Go p e below _ (s₁.setTop (mkF m 16 #[.val (.long p0), .second, .val (.long p1), .second, .val (.long p2), .second, .val (.int p3), .val (.int xd), .unset, .unset, .unset, .unset, .unset, .unset, .unset, .unset, .unset, .unset, .unset, .unset, .unset, .unset, .unset] [(.int (((p3.toUInt32 >>> ((2 : Int32) &&& 31).toUInt32).toInt32) &&& (3 : Int32)))]))
  obtain ⟨ia, hat, la⟩ := own_and3 ((p3.toUInt32 >>> ((2 : Int32) &&& 31).toUInt32).toInt32)
  generalize (((p3.toUInt32 >>> ((2 : Int32) &&& 31).toUInt32).toInt32) &&& (3 : Int32)) = xat at hat ⊢
  show own_Go p e below _ (s₁.setTop (mkF m 16 #[.val (.long p0), .second, .val (.long p1), .second, .val (.long p2), .second, .val (.int p3), .val (.int xd), .unset, .unset, .unset, .unset, .unset, .unset, .unset, .unset, .unset, .unset, .unset, .unset, .unset, .unset, .unset] [(.int xat)]))
  refine own_Go.st (fun _ kt => XS.istore X0.here hx rfl (hb hby at_16) rfl (l' := #[.val (.long p0), .second, .val (.long p1), .second, .val (.long p2), .second, .val (.int p3), .val (.int xd), .val (.int xat), .unset, .unset, .unset, .unset, .unset, .unset, .unset, .unset, .unset, .unset, .unset, .unset, .unset, .unset]) rfl kt) ?_
  show own_Go p e below _ (s₁.setTop (mkF m 18 #[.val (.long p0), .second, .val (.long p1), .second, .val (.long p2), .second, .val (.int p3), .val (.int xd), .val (.int xat), .unset, .unset, .unset, .unset, .unset, .unset, .unset, .unset, .unset, .unset, .unset, .unset, .unset, .unset] []))
  refine own_Go.st (fun _ kt => XS.iload X0.here hx rfl (hb hby at_18) rfl kt) ?_
  show own_Go p e below _ (s₁.setTop (mkF m 20 #[.val (.long p0), .second, .val (.long p1), .second, .val (.long p2), .second, .val (.int p3), .val (.int xd), .val (.int xat), .unset, .unset, .unset, .unset, .unset, .unset, .unset, .unset, .unset, .unset, .unset, .unset, .unset, .unset] [(.int p3)]))
  refine own_Go.st (fun _ kt => XS.iconst X0.here hx rfl (hb hby at_20) kt) ?_
  show own_Go p e below _ (s₁.setTop (mkF m 21 #[.val (.long p0), .second, .val (.long p1), .second, .val (.long p2), .second, .val (.int p3), .val (.int xd), .val (.int xat), .unset, .unset, .unset, .unset, .unset, .unset, .unset, .unset, .unset, .unset, .unset, .unset, .unset, .unset] [(.int (4 : Int32)), (.int p3)]))
  refine own_Go.st (fun _ kt => XS.iushr X0.here hx rfl (hb hby at_21) rfl kt) ?_
  show own_Go p e below _ (s₁.setTop (mkF m 22 #[.val (.long p0), .second, .val (.long p1), .second, .val (.long p2), .second, .val (.int p3), .val (.int xd), .val (.int xat), .unset, .unset, .unset, .unset, .unset, .unset, .unset, .unset, .unset, .unset, .unset, .unset, .unset, .unset] [(.int ((p3.toUInt32 >>> ((4 : Int32) &&& 31).toUInt32).toInt32))]))
  refine own_Go.st (fun _ kt => XS.iconst X0.here hx rfl (hb hby at_22) kt) ?_
  show own_Go p e below _ (s₁.setTop (mkF m 23 #[.val (.long p0), .second, .val (.long p1), .second, .val (.long p2), .second, .val (.int p3), .val (.int xd), .val (.int xat), .unset, .unset, .unset, .unset, .unset, .unset, .unset, .unset, .unset, .unset, .unset, .unset, .unset, .unset] [(.int (1 : Int32)), (.int ((p3.toUInt32 >>> ((4 : Int32) &&& 31).toUInt32).toInt32))]))
  refine own_Go.st (fun _ kt => XS.iand X0.here hx rfl (hb hby at_23) rfl kt) ?_
  show own_Go p e below _ (s₁.setTop (mkF m 24 #[.val (.long p0), .second, .val (.long p1), .second, .val (.long p2), .second, .val (.int p3), .val (.int xd), .val (.int xat), .unset, .unset, .unset, .unset, .unset, .unset, .unset, .unset, .unset, .unset, .unset, .unset, .unset, .unset] [(.int (((p3.toUInt32 >>> ((4 : Int32) &&& 31).toUInt32).toInt32) &&& (1 : Int32)))]))
  have J34 : ∀ (T1 : State) (lc1 : List Loc) (X1 : Stand p l e room_1 s m #[(.long p0), (.long p1), (.long p2), (.int p3)] below meth c T1 lc1 0 0) (e1 : T1.heap = h0) (N1 : Fr n0 lc1) (xu : Int32) (hu : xu = 0 ∨ xu = 1), own_Go p e below (fun o U' => ∃ v L, o = .returned v ∧ own_Q_own_law Z p0 p1 p2 p3 h0 n0 v U'.heap L ∧ FrameEnd s o U' L room_1.cells room_1.slots) (T1.setTop (mkF m 34 #[.val (.long p0), .second, .val (.long p1), .second, .val (.long p2), .second, .val (.int p3), .val (.int xd), .val (.int xat), .val (.int xu), .unset, .unset, .unset, .unset, .unset, .unset, .unset, .unset, .unset, .unset, .unset, .unset, .unset] [])) := by
    intro T1 lc1 X1 e1 N1 xu hu
    show own_Go p e below _ (T1.setTop (mkF m 34 #[.val (.long p0), .second, .val (.long p1), .second, .val (.long p2), .second, .val (.int p3), .val (.int xd), .val (.int xat), .val (.int xu), .unset, .unset, .unset, .unset, .unset, .unset, .unset, .unset, .unset, .unset, .unset, .unset, .unset] []))
    refine own_Go.st (fun _ kt => XS.iload X1.here hx rfl (hb hby at_34) rfl kt) ?_
    show own_Go p e below _ (T1.setTop (mkF m 36 #[.val (.long p0), .second, .val (.long p1), .second, .val (.long p2), .second, .val (.int p3), .val (.int xd), .val (.int xat), .val (.int xu), .unset, .unset, .unset, .unset, .unset, .unset, .unset, .unset, .unset, .unset, .unset, .unset, .unset] [(.int p3)]))
    refine own_Go.st (fun _ kt => XS.iconst X1.here hx rfl (hb hby at_36) kt) ?_
    show own_Go p e below _ (T1.setTop (mkF m 37 #[.val (.long p0), .second, .val (.long p1), .second, .val (.long p2), .second, .val (.int p3), .val (.int xd), .val (.int xat), .val (.int xu), .unset, .unset, .unset, .unset, .unset, .unset, .unset, .unset, .unset, .unset, .unset, .unset, .unset] [(.int (5 : Int32)), (.int p3)]))
    refine own_Go.st (fun _ kt => XS.iushr X1.here hx rfl (hb hby at_37) rfl kt) ?_
    show own_Go p e below _ (T1.setTop (mkF m 38 #[.val (.long p0), .second, .val (.long p1), .second, .val (.long p2), .second, .val (.int p3), .val (.int xd), .val (.int xat), .val (.int xu), .unset, .unset, .unset, .unset, .unset, .unset, .unset, .unset, .unset, .unset, .unset, .unset, .unset] [(.int ((p3.toUInt32 >>> ((5 : Int32) &&& 31).toUInt32).toInt32))]))
    refine own_Go.st (fun _ kt => XS.iconst X1.here hx rfl (hb hby at_38) kt) ?_
    show own_Go p e below _ (T1.setTop (mkF m 39 #[.val (.long p0), .second, .val (.long p1), .second, .val (.long p2), .second, .val (.int p3), .val (.int xd), .val (.int xat), .val (.int xu), .unset, .unset, .unset, .unset, .unset, .unset, .unset, .unset, .unset, .unset, .unset, .unset, .unset] [(.int (3 : Int32)), (.int ((p3.toUInt32 >>> ((5 : Int32) &&& 31).toUInt32).toInt32))]))
    refine own_Go.st (fun _ kt => XS.iand X1.here hx rfl (hb hby at_39) rfl kt) ?_
    show own_Go p e below _ (T1.setTop (mkF m 40 #[.val (.long p0), .second, .val (.long p1), .second, .val (.long p2), .second, .val (.int p3), .val (.int xd), .val (.int xat), .val (.int xu), .unset, .unset, .unset, .unset, .unset, .unset, .unset, .unset, .unset, .unset, .unset, .unset, .unset] [(.int (((p3.toUInt32 >>> ((5 : Int32) &&& 31).toUInt32).toInt32) &&& (3 : Int32)))]))
    refine own_Go.st (fun _ kt => XS.iload X1.here hx rfl (hb hby at_40) rfl kt) ?_
    show own_Go p e below _ (T1.setTop (mkF m 42 #[.val (.long p0), .second, .val (.long p1), .second, .val (.long p2), .second, .val (.int p3), .val (.int xd), .val (.int xat), .val (.int xu), .unset, .unset, .unset, .unset, .unset, .unset, .unset, .unset, .unset, .unset, .unset, .unset, .unset] [(.int xd), (.int (((p3.toUInt32 >>> ((5 : Int32) &&& 31).toUInt32).toInt32) &&& (3 : Int32)))]))
    have hnz : xd ≠ 0 := by rcases hd with rfl | rfl | rfl <;> decide
    refine own_Go.st (fun _ kt => Jvm.RoadKit.iremM X1 hx rfl (hb hby at_42) rfl hnz kt) ?_
    show own_Go p e below _ (T1.setTop (mkF m 43 #[.val (.long p0), .second, .val (.long p1), .second, .val (.long p2), .second, .val (.int p3), .val (.int xd), .val (.int xat), .val (.int xu), .unset, .unset, .unset, .unset, .unset, .unset, .unset, .unset, .unset, .unset, .unset, .unset, .unset] [(.int ((((p3.toUInt32 >>> ((5 : Int32) &&& 31).toUInt32).toInt32) &&& (3 : Int32)) % xd))]))
    generalize hxg : ((((p3.toUInt32 >>> ((5 : Int32) &&& 31).toUInt32).toInt32) &&& (3 : Int32)) % xd) = xg
    show own_Go p e below _ (T1.setTop (mkF m 43 #[.val (.long p0), .second, .val (.long p1), .second, .val (.long p2), .second, .val (.int p3), .val (.int xd), .val (.int xat), .val (.int xu), .unset, .unset, .unset, .unset, .unset, .unset, .unset, .unset, .unset, .unset, .unset, .unset, .unset] [(.int xg)]))
    refine own_Go.st (fun _ kt => XS.istore X1.here hx rfl (hb hby at_43) rfl (l' := #[.val (.long p0), .second, .val (.long p1), .second, .val (.long p2), .second, .val (.int p3), .val (.int xd), .val (.int xat), .val (.int xu), .val (.int xg), .unset, .unset, .unset, .unset, .unset, .unset, .unset, .unset, .unset, .unset, .unset, .unset]) rfl kt) ?_
    show own_Go p e below _ (T1.setTop (mkF m 45 #[.val (.long p0), .second, .val (.long p1), .second, .val (.long p2), .second, .val (.int p3), .val (.int xd), .val (.int xat), .val (.int xu), .val (.int xg), .unset, .unset, .unset, .unset, .unset, .unset, .unset, .unset, .unset, .unset, .unset, .unset] []))
    refine own_Go.st (fun _ kt => XS.bipush X1.here hx rfl (hb hby at_45) kt) ?_
    show own_Go p e below _ (T1.setTop (mkF m 47 #[.val (.long p0), .second, .val (.long p1), .second, .val (.long p2), .second, .val (.int p3), .val (.int xd), .val (.int xat), .val (.int xu), .val (.int xg), .unset, .unset, .unset, .unset, .unset, .unset, .unset, .unset, .unset, .unset, .unset, .unset] [(.int (10 : Int32))]))
    obtain ⟨T2, h2, k2, X2, e2, E2, A2, st2⟩ := newP X1 hx hZ (hw _ (List.mem_of_getElem? (i := 0) rfl)) e1 (g := (mkF m 47 #[.val (.long p0), .second, .val (.long p1), .second, .val (.long p2), .second, .val (.int p3), .val (.int xd), .val (.int xat), .val (.int xu), .val (.int xg), .unset, .unset, .unset, .unset, .unset, .unset, .unset, .unset, .unset, .unset, .unset, .unset] [(.int (10 : Int32))])) rfl (hb hby at_47) rfl (by decide) (cap := 10) (by decide) (by decide) (by decide) (by decide)
    obtain ⟨rb, g2⟩ : ∃ z, z = Array.size h0 := ⟨_, rfl⟩
    rw [← g2] at A2 st2
    refine own_Go.st st2 ?_
    have n0_rb : n0 ≤ rb := Nat.le_trans Z0 (Nat.le_of_eq g2.symm)
    have zz3 : n0 ≤ Array.size h2 := Nat.le_trans Z0 E2.1
    show own_Go p e below _ (T2.setTop (mkF m 49 #[.val (.long p0), .second, .val (.long p1), .second, .val (.long p2), .second, .val (.int p3), .val (.int xd), .val (.int xat), .val (.int xu), .val (.int xg), .unset, .unset, .unset, .unset, .unset, .unset, .unset, .unset, .unset, .unset, .unset, .unset] [(.ref rb)]))
    have ab0 := own_Ar.new A2 (n := 10) (by decide)
    refine own_Go.st (fun _ kt => XS.astore X2.here hx rfl (hb hby at_49) rfl rfl (l' := #[.val (.long p0), .second, .val (.long p1), .second, .val (.long p2), .second, .val (.int p3), .val (.int xd), .val (.int xat), .val (.int xu), .val (.int xg), .val (.ref rb), .unset, .unset, .unset, .unset, .unset, .unset, .unset, .unset, .unset, .unset, .unset]) rfl kt) ?_
    show own_Go p e below _ (T2.setTop (mkF m 51 #[.val (.long p0), .second, .val (.long p1), .second, .val (.long p2), .second, .val (.int p3), .val (.int xd), .val (.int xat), .val (.int xu), .val (.int xg), .val (.ref rb), .unset, .unset, .unset, .unset, .unset, .unset, .unset, .unset, .unset, .unset, .unset] []))
    refine own_Go.st (fun _ kt => XS.aload X2.here hx rfl (hb hby at_51) rfl rfl kt) ?_
    show own_Go p e below _ (T2.setTop (mkF m 53 #[.val (.long p0), .second, .val (.long p1), .second, .val (.long p2), .second, .val (.int p3), .val (.int xd), .val (.int xat), .val (.int xu), .val (.int xg), .val (.ref rb), .unset, .unset, .unset, .unset, .unset, .unset, .unset, .unset, .unset, .unset, .unset] [(.ref rb)]))
    refine own_Go.st (fun _ kt => XS.iconst X2.here hx rfl (hb hby at_53) kt) ?_
    show own_Go p e below _ (T2.setTop (mkF m 54 #[.val (.long p0), .second, .val (.long p1), .second, .val (.long p2), .second, .val (.int p3), .val (.int xd), .val (.int xat), .val (.int xu), .val (.int xg), .val (.ref rb), .unset, .unset, .unset, .unset, .unset, .unset, .unset, .unset, .unset, .unset, .unset] [(.int (0 : Int32)), (.ref rb)]))
    refine own_Go.st (fun _ kt => X2.ldc2DoubleC hx hown (mvT hZ (hw _ (List.mem_of_getElem? (i := 1) rfl))) (g := (mkF m 54 #[.val (.long p0), .second, .val (.long p1), .second, .val (.long p2), .second, .val (.int p3), .val (.int xd), .val (.int xat), .val (.int xu), .val (.int xg), .val (.ref rb), .unset, .unset, .unset, .unset, .unset, .unset, .unset, .unset, .unset, .unset, .unset] [(.int (0 : Int32)), (.ref rb)])) rfl (hb hby at_54) _ kt) ?_
    show own_Go p e below _ (T2.setTop (mkF m 57 #[.val (.long p0), .second, .val (.long p1), .second, .val (.long p2), .second, .val (.int p3), .val (.int xd), .val (.int xat), .val (.int xu), .val (.int xg), .val (.ref rb), .unset, .unset, .unset, .unset, .unset, .unset, .unset, .unset, .unset, .unset, .unset] [(.double (4652007308841189376 : UInt64)), (.int (0 : Int32)), (.ref rb)]))
    obtain ⟨T4, h4, X4, e4, W4, st4⟩ := own_dst X2 hx hZ e2 ab0 (i := 0) (by decide) (by decide) (g := (mkF m 57 #[.val (.long p0), .second, .val (.long p1), .second, .val (.long p2), .second, .val (.int p3), .val (.int xd), .val (.int xat), .val (.int xu), .val (.int xg), .val (.ref rb), .unset, .unset, .unset, .unset, .unset, .unset, .unset, .unset, .unset, .unset, .unset] [(.double (4652007308841189376 : UInt64)), (.int (0 : Int32)), (.ref rb)])) rfl rfl (hb hby at_57)
    refine own_Go.st st4 ?_
    have N4 := Fr.snoc X4 N1 n0_rb
    have a4 := own_Ar.set ab0 W4
    have zz5 : n0 ≤ Array.size h4 := Nat.le_trans zz3 (Nat.le_of_eq (Wr.size W4).symm)
    show own_Go p e below _ (T4.setTop (mkF m 58 #[.val (.long p0), .second, .val (.long p1), .second, .val (.long p2), .second, .val (.int p3), .val (.int xd), .val (.int xat), .val (.int xu), .val (.int xg), .val (.ref rb), .unset, .unset, .unset, .unset, .unset, .unset, .unset, .unset, .unset, .unset, .unset] []))
    refine own_Go.st (fun _ kt => XS.aload X4.here hx rfl (hb hby at_58) rfl rfl kt) ?_
    show own_Go p e below _ (T4.setTop (mkF m 60 #[.val (.long p0), .second, .val (.long p1), .second, .val (.long p2), .second, .val (.int p3), .val (.int xd), .val (.int xat), .val (.int xu), .val (.int xg), .val (.ref rb), .unset, .unset, .unset, .unset, .unset, .unset, .unset, .unset, .unset, .unset, .unset] [(.ref rb)]))
    refine own_Go.st (fun _ kt => XS.iconst X4.here hx rfl (hb hby at_60) kt) ?_
    show own_Go p e below _ (T4.setTop (mkF m 61 #[.val (.long p0), .second, .val (.long p1), .second, .val (.long p2), .second, .val (.int p3), .val (.int xd), .val (.int xat), .val (.int xu), .val (.int xg), .val (.ref rb), .unset, .unset, .unset, .unset, .unset, .unset, .unset, .unset, .unset, .unset, .unset] [(.int (1 : Int32)), (.ref rb)]))
    refine own_Go.st (fun _ kt => X4.ldc2DoubleC hx hown (mvT hZ (hw _ (List.mem_of_getElem? (i := 2) rfl))) (g := (mkF m 61 #[.val (.long p0), .second, .val (.long p1), .second, .val (.long p2), .second, .val (.int p3), .val (.int xd), .val (.int xat), .val (.int xu), .val (.int xg), .val (.ref rb), .unset, .unset, .unset, .unset, .unset, .unset, .unset, .unset, .unset, .unset, .unset] [(.int (1 : Int32)), (.ref rb)])) rfl (hb hby at_61) _ kt) ?_
    show own_Go p e below _ (T4.setTop (mkF m 64 #[.val (.long p0), .second, .val (.long p1), .second, .val (.long p2), .second, .val (.int p3), .val (.int xd), .val (.int xat), .val (.int xu), .val (.int xg), .val (.ref rb), .unset, .unset, .unset, .unset, .unset, .unset, .unset, .unset, .unset, .unset, .unset] [(.double (13879887343369846784 : UInt64)), (.int (1 : Int32)), (.ref rb)]))
    obtain ⟨T6, h6, X6, e6, W6, st6⟩ := own_dst X4 hx hZ e4 a4 (i := 1) (by decide) (by decide) (g := (mkF m 64 #[.val (.long p0), .second, .val (.long p1), .second, .val (.long p2), .second, .val (.int p3), .val (.int xd), .val (.int xat), .val (.int xu), .val (.int xg), .val (.ref rb), .unset, .unset, .unset, .unset, .unset, .unset, .unset, .unset, .unset, .unset, .unset] [(.double (13879887343369846784 : UInt64)), (.int (1 : Int32)), (.ref rb)])) rfl rfl (hb hby at_64)
    refine own_Go.st st6 ?_
    have N6 := Fr.snoc X6 N4 n0_rb
    have a6 := own_Ar.set a4 W6
    have zz7 : n0 ≤ Array.size h6 := Nat.le_trans zz5 (Nat.le_of_eq (Wr.size W6).symm)
    show own_Go p e below _ (T6.setTop (mkF m 65 #[.val (.long p0), .second, .val (.long p1), .second, .val (.long p2), .second, .val (.int p3), .val (.int xd), .val (.int xat), .val (.int xu), .val (.int xg), .val (.ref rb), .unset, .unset, .unset, .unset, .unset, .unset, .unset, .unset, .unset, .unset, .unset] []))
    refine own_Go.st (fun _ kt => XS.aload X6.here hx rfl (hb hby at_65) rfl rfl kt) ?_
    show own_Go p e below _ (T6.setTop (mkF m 67 #[.val (.long p0), .second, .val (.long p1), .second, .val (.long p2), .second, .val (.int p3), .val (.int xd), .val (.int xat), .val (.int xu), .val (.int xg), .val (.ref rb), .unset, .unset, .unset, .unset, .unset, .unset, .unset, .unset, .unset, .unset, .unset] [(.ref rb)]))
    refine own_Go.st (fun _ kt => XS.iconst X6.here hx rfl (hb hby at_67) kt) ?_
    show own_Go p e below _ (T6.setTop (mkF m 68 #[.val (.long p0), .second, .val (.long p1), .second, .val (.long p2), .second, .val (.int p3), .val (.int xd), .val (.int xat), .val (.int xu), .val (.int xg), .val (.ref rb), .unset, .unset, .unset, .unset, .unset, .unset, .unset, .unset, .unset, .unset, .unset] [(.int (2 : Int32)), (.ref rb)]))
    refine own_Go.st (fun _ kt => X6.ldc2DoubleC hx hown (mvT hZ (hw _ (List.mem_of_getElem? (i := 3) rfl))) (g := (mkF m 68 #[.val (.long p0), .second, .val (.long p1), .second, .val (.long p2), .second, .val (.int p3), .val (.int xd), .val (.int xat), .val (.int xu), .val (.int xg), .val (.ref rb), .unset, .unset, .unset, .unset, .unset, .unset, .unset, .unset, .unset, .unset, .unset] [(.int (2 : Int32)), (.ref rb)])) rfl (hb hby at_68) _ kt) ?_
    show own_Go p e below _ (T6.setTop (mkF m 71 #[.val (.long p0), .second, .val (.long p1), .second, .val (.long p2), .second, .val (.int p3), .val (.int xd), .val (.int xat), .val (.int xu), .val (.int xg), .val (.ref rb), .unset, .unset, .unset, .unset, .unset, .unset, .unset, .unset, .unset, .unset, .unset] [(.double (4658819882886889472 : UInt64)), (.int (2 : Int32)), (.ref rb)]))
    obtain ⟨T8, h8, X8, e8, W8, st8⟩ := own_dst X6 hx hZ e6 a6 (i := 2) (by decide) (by decide) (g := (mkF m 71 #[.val (.long p0), .second, .val (.long p1), .second, .val (.long p2), .second, .val (.int p3), .val (.int xd), .val (.int xat), .val (.int xu), .val (.int xg), .val (.ref rb), .unset, .unset, .unset, .unset, .unset, .unset, .unset, .unset, .unset, .unset, .unset] [(.double (4658819882886889472 : UInt64)), (.int (2 : Int32)), (.ref rb)])) rfl rfl (hb hby at_71)
    refine own_Go.st st8 ?_
    have N8 := Fr.snoc X8 N6 n0_rb
    have a8 := own_Ar.set a6 W8
    have zz9 : n0 ≤ Array.size h8 := Nat.le_trans zz7 (Nat.le_of_eq (Wr.size W8).symm)
    show own_Go p e below _ (T8.setTop (mkF m 72 #[.val (.long p0), .second, .val (.long p1), .second, .val (.long p2), .second, .val (.int p3), .val (.int xd), .val (.int xat), .val (.int xu), .val (.int xg), .val (.ref rb), .unset, .unset, .unset, .unset, .unset, .unset, .unset, .unset, .unset, .unset, .unset] []))
    refine own_Go.st (fun _ kt => XS.aload X8.here hx rfl (hb hby at_72) rfl rfl kt) ?_
    show own_Go p e below _ (T8.setTop (mkF m 74 #[.val (.long p0), .second, .val (.long p1), .second, .val (.long p2), .second, .val (.int p3), .val (.int xd), .val (.int xat), .val (.int xu), .val (.int xg), .val (.ref rb), .unset, .unset, .unset, .unset, .unset, .unset, .unset, .unset, .unset, .unset, .unset] [(.ref rb)]))
    refine own_Go.st (fun _ kt => XS.iconst X8.here hx rfl (hb hby at_74) kt) ?_
    show own_Go p e below _ (T8.setTop (mkF m 75 #[.val (.long p0), .second, .val (.long p1), .second, .val (.long p2), .second, .val (.int p3), .val (.int xd), .val (.int xat), .val (.int xu), .val (.int xg), .val (.ref rb), .unset, .unset, .unset, .unset, .unset, .unset, .unset, .unset, .unset, .unset, .unset] [(.int (3 : Int32)), (.ref rb)]))
    refine own_Go.st (fun _ kt => X8.ldc2DoubleC hx hown (mvT hZ (hw _ (List.mem_of_getElem? (i := 4) rfl))) (g := (mkF m 75 #[.val (.long p0), .second, .val (.long p1), .second, .val (.long p2), .second, .val (.int p3), .val (.int xd), .val (.int xat), .val (.int xu), .val (.int xg), .val (.ref rb), .unset, .unset, .unset, .unset, .unset, .unset, .unset, .unset, .unset, .unset, .unset] [(.int (3 : Int32)), (.ref rb)])) rfl (hb hby at_75) _ kt) ?_
    show own_Go p e below _ (T8.setTop (mkF m 78 #[.val (.long p0), .second, .val (.long p1), .second, .val (.long p2), .second, .val (.int p3), .val (.int xd), .val (.int xat), .val (.int xu), .val (.int xg), .val (.ref rb), .unset, .unset, .unset, .unset, .unset, .unset, .unset, .unset, .unset, .unset, .unset] [(.double (13884393142020472832 : UInt64)), (.int (3 : Int32)), (.ref rb)]))
    obtain ⟨T10, h10, X10, e10, W10, st10⟩ := own_dst X8 hx hZ e8 a8 (i := 3) (by decide) (by decide) (g := (mkF m 78 #[.val (.long p0), .second, .val (.long p1), .second, .val (.long p2), .second, .val (.int p3), .val (.int xd), .val (.int xat), .val (.int xu), .val (.int xg), .val (.ref rb), .unset, .unset, .unset, .unset, .unset, .unset, .unset, .unset, .unset, .unset, .unset] [(.double (13884393142020472832 : UInt64)), (.int (3 : Int32)), (.ref rb)])) rfl rfl (hb hby at_78)
    refine own_Go.st st10 ?_
    have N10 := Fr.snoc X10 N8 n0_rb
    have a10 := own_Ar.set a8 W10
    have zz11 : n0 ≤ Array.size h10 := Nat.le_trans zz9 (Nat.le_of_eq (Wr.size W10).symm)
    show own_Go p e below _ (T10.setTop (mkF m 79 #[.val (.long p0), .second, .val (.long p1), .second, .val (.long p2), .second, .val (.int p3), .val (.int xd), .val (.int xat), .val (.int xu), .val (.int xg), .val (.ref rb), .unset, .unset, .unset, .unset, .unset, .unset, .unset, .unset, .unset, .unset, .unset] []))
    refine own_Go.st (fun _ kt => XS.aload X10.here hx rfl (hb hby at_79) rfl rfl kt) ?_
    show own_Go p e below _ (T10.setTop (mkF m 81 #[.val (.long p0), .second, .val (.long p1), .second, .val (.long p2), .second, .val (.int p3), .val (.int xd), .val (.int xat), .val (.int xu), .val (.int xg), .val (.ref rb), .unset, .unset, .unset, .unset, .unset, .unset, .unset, .unset, .unset, .unset, .unset] [(.ref rb)]))
    refine own_Go.st (fun _ kt => XS.iconst X10.here hx rfl (hb hby at_81) kt) ?_
    show own_Go p e below _ (T10.setTop (mkF m 82 #[.val (.long p0), .second, .val (.long p1), .second, .val (.long p2), .second, .val (.int p3), .val (.int xd), .val (.int xat), .val (.int xu), .val (.int xg), .val (.ref rb), .unset, .unset, .unset, .unset, .unset, .unset, .unset, .unset, .unset, .unset, .unset] [(.int (4 : Int32)), (.ref rb)]))
    refine own_Go.st (fun _ kt => X10.ldc2DoubleC hx hown (mvT hZ (hw _ (List.mem_of_getElem? (i := 5) rfl))) (g := (mkF m 82 #[.val (.long p0), .second, .val (.long p1), .second, .val (.long p2), .second, .val (.int p3), .val (.int xd), .val (.int xat), .val (.int xu), .val (.int xg), .val (.ref rb), .unset, .unset, .unset, .unset, .unset, .unset, .unset, .unset, .unset, .unset, .unset] [(.int (4 : Int32)), (.ref rb)])) rfl (hb hby at_82) _ kt) ?_
    show own_Go p e below _ (T10.setTop (mkF m 85 #[.val (.long p0), .second, .val (.long p1), .second, .val (.long p2), .second, .val (.int p3), .val (.int xd), .val (.int xat), .val (.int xu), .val (.int xg), .val (.ref rb), .unset, .unset, .unset, .unset, .unset, .unset, .unset, .unset, .unset, .unset, .unset] [(.double (4662223970886483968 : UInt64)), (.int (4 : Int32)), (.ref rb)]))
    obtain ⟨T12, h12, X12, e12, W12, st12⟩ := own_dst X10 hx hZ e10 a10 (i := 4) (by decide) (by decide) (g := (mkF m 85 #[.val (.long p0), .second, .val (.long p1), .second, .val (.long p2), .second, .val (.int p3), .val (.int xd), .val (.int xat), .val (.int xu), .val (.int xg), .val (.ref rb), .unset, .unset, .unset, .unset, .unset, .unset, .unset, .unset, .unset, .unset, .unset] [(.double (4662223970886483968 : UInt64)), (.int (4 : Int32)), (.ref rb)])) rfl rfl (hb hby at_85)
    refine own_Go.st st12 ?_
    have N12 := Fr.snoc X12 N10 n0_rb
    have a12 := own_Ar.set a10 W12
    have zz13 : n0 ≤ Array.size h12 := Nat.le_trans zz11 (Nat.le_of_eq (Wr.size W12).symm)
    show own_Go p e below _ (T12.setTop (mkF m 86 #[.val (.long p0), .second, .val (.long p1), .second, .val (.long p2), .second, .val (.int p3), .val (.int xd), .val (.int xat), .val (.int xu), .val (.int xg), .val (.ref rb), .unset, .unset, .unset, .unset, .unset, .unset, .unset, .unset, .unset, .unset, .unset] []))
    refine own_Go.st (fun _ kt => XS.aload X12.here hx rfl (hb hby at_86) rfl rfl kt) ?_
    show own_Go p e below _ (T12.setTop (mkF m 88 #[.val (.long p0), .second, .val (.long p1), .second, .val (.long p2), .second, .val (.int p3), .val (.int xd), .val (.int xat), .val (.int xu), .val (.int xg), .val (.ref rb), .unset, .unset, .unset, .unset, .unset, .unset, .unset, .unset, .unset, .unset, .unset] [(.ref rb)]))
    refine own_Go.st (fun _ kt => XS.iconst X12.here hx rfl (hb hby at_88) kt) ?_
    show own_Go p e below _ (T12.setTop (mkF m 89 #[.val (.long p0), .second, .val (.long p1), .second, .val (.long p2), .second, .val (.int p3), .val (.int xd), .val (.int xat), .val (.int xu), .val (.int xg), .val (.ref rb), .unset, .unset, .unset, .unset, .unset, .unset, .unset, .unset, .unset, .unset, .unset] [(.int (5 : Int32)), (.ref rb)]))
    refine own_Go.st (fun _ kt => X12.ldc2DoubleC hx hown (mvT hZ (hw _ (List.mem_of_getElem? (i := 6) rfl))) (g := (mkF m 89 #[.val (.long p0), .second, .val (.long p1), .second, .val (.long p2), .second, .val (.int p3), .val (.int xd), .val (.int xat), .val (.int xu), .val (.int xg), .val (.ref rb), .unset, .unset, .unset, .unset, .unset, .unset, .unset, .unset, .unset, .unset, .unset] [(.int (5 : Int32)), (.ref rb)])) rfl (hb hby at_89) _ kt) ?_
    show own_Go p e below _ (T12.setTop (mkF m 92 #[.val (.long p0), .second, .val (.long p1), .second, .val (.long p2), .second, .val (.int p3), .val (.int xd), .val (.int xat), .val (.int xu), .val (.int xg), .val (.ref rb), .unset, .unset, .unset, .unset, .unset, .unset, .unset, .unset, .unset, .unset, .unset] [(.double (13886696618880663552 : UInt64)), (.int (5 : Int32)), (.ref rb)]))
    obtain ⟨T14, h14, X14, e14, W14, st14⟩ := own_dst X12 hx hZ e12 a12 (i := 5) (by decide) (by decide) (g := (mkF m 92 #[.val (.long p0), .second, .val (.long p1), .second, .val (.long p2), .second, .val (.int p3), .val (.int xd), .val (.int xat), .val (.int xu), .val (.int xg), .val (.ref rb), .unset, .unset, .unset, .unset, .unset, .unset, .unset, .unset, .unset, .unset, .unset] [(.double (13886696618880663552 : UInt64)), (.int (5 : Int32)), (.ref rb)])) rfl rfl (hb hby at_92)
    refine own_Go.st st14 ?_
    have N14 := Fr.snoc X14 N12 n0_rb
    have a14 := own_Ar.set a12 W14
    have zz15 : n0 ≤ Array.size h14 := Nat.le_trans zz13 (Nat.le_of_eq (Wr.size W14).symm)
    show own_Go p e below _ (T14.setTop (mkF m 93 #[.val (.long p0), .second, .val (.long p1), .second, .val (.long p2), .second, .val (.int p3), .val (.int xd), .val (.int xat), .val (.int xu), .val (.int xg), .val (.ref rb), .unset, .unset, .unset, .unset, .unset, .unset, .unset, .unset, .unset, .unset, .unset] []))
    refine own_Go.st (fun _ kt => XS.aload X14.here hx rfl (hb hby at_93) rfl rfl kt) ?_
    show own_Go p e below _ (T14.setTop (mkF m 95 #[.val (.long p0), .second, .val (.long p1), .second, .val (.long p2), .second, .val (.int p3), .val (.int xd), .val (.int xat), .val (.int xu), .val (.int xg), .val (.ref rb), .unset, .unset, .unset, .unset, .unset, .unset, .unset, .unset, .unset, .unset, .unset] [(.ref rb)]))
    refine own_Go.st (fun _ kt => XS.bipush X14.here hx rfl (hb hby at_95) kt) ?_
    show own_Go p e below _ (T14.setTop (mkF m 97 #[.val (.long p0), .second, .val (.long p1), .second, .val (.long p2), .second, .val (.int p3), .val (.int xd), .val (.int xat), .val (.int xu), .val (.int xg), .val (.ref rb), .unset, .unset, .unset, .unset, .unset, .unset, .unset, .unset, .unset, .unset, .unset] [(.int (6 : Int32)), (.ref rb)]))
    refine own_Go.st (fun _ kt => X14.ldc2DoubleC hx hown (mvT hZ (hw _ (List.mem_of_getElem? (i := 7) rfl))) (g := (mkF m 97 #[.val (.long p0), .second, .val (.long p1), .second, .val (.long p2), .second, .val (.int p3), .val (.int xd), .val (.int xat), .val (.int xu), .val (.int xg), .val (.ref rb), .unset, .unset, .unset, .unset, .unset, .unset, .unset, .unset, .unset, .unset, .unset] [(.int (6 : Int32)), (.ref rb)])) rfl (hb hby at_97) _ kt) ?_
    show own_Go p e below _ (T14.setTop (mkF m 100 #[.val (.long p0), .second, .val (.long p1), .second, .val (.long p2), .second, .val (.int p3), .val (.int xd), .val (.int xat), .val (.int xu), .val (.int xg), .val (.ref rb), .unset, .unset, .unset, .unset, .unset, .unset, .unset, .unset, .unset, .unset, .unset] [(.double (4664425193165291520 : UInt64)), (.int (6 : Int32)), (.ref rb)]))
    obtain ⟨T16, h16, X16, e16, W16, st16⟩ := own_dst X14 hx hZ e14 a14 (i := 6) (by decide) (by decide) (g := (mkF m 100 #[.val (.long p0), .second, .val (.long p1), .second, .val (.long p2), .second, .val (.int p3), .val (.int xd), .val (.int xat), .val (.int xu), .val (.int xg), .val (.ref rb), .unset, .unset, .unset, .unset, .unset, .unset, .unset, .unset, .unset, .unset, .unset] [(.double (4664425193165291520 : UInt64)), (.int (6 : Int32)), (.ref rb)])) rfl rfl (hb hby at_100)
    refine own_Go.st st16 ?_
    have N16 := Fr.snoc X16 N14 n0_rb
    have a16 := own_Ar.set a14 W16
    have zz17 : n0 ≤ Array.size h16 := Nat.le_trans zz15 (Nat.le_of_eq (Wr.size W16).symm)
    show own_Go p e below _ (T16.setTop (mkF m 101 #[.val (.long p0), .second, .val (.long p1), .second, .val (.long p2), .second, .val (.int p3), .val (.int xd), .val (.int xat), .val (.int xu), .val (.int xg), .val (.ref rb), .unset, .unset, .unset, .unset, .unset, .unset, .unset, .unset, .unset, .unset, .unset] []))
    refine own_Go.st (fun _ kt => XS.aload X16.here hx rfl (hb hby at_101) rfl rfl kt) ?_
    show own_Go p e below _ (T16.setTop (mkF m 103 #[.val (.long p0), .second, .val (.long p1), .second, .val (.long p2), .second, .val (.int p3), .val (.int xd), .val (.int xat), .val (.int xu), .val (.int xg), .val (.ref rb), .unset, .unset, .unset, .unset, .unset, .unset, .unset, .unset, .unset, .unset, .unset] [(.ref rb)]))
    refine own_Go.st (fun _ kt => XS.bipush X16.here hx rfl (hb hby at_103) kt) ?_
    show own_Go p e below _ (T16.setTop (mkF m 105 #[.val (.long p0), .second, .val (.long p1), .second, .val (.long p2), .second, .val (.int p3), .val (.int xd), .val (.int xat), .val (.int xu), .val (.int xg), .val (.ref rb), .unset, .unset, .unset, .unset, .unset, .unset, .unset, .unset, .unset, .unset, .unset] [(.int (7 : Int32)), (.ref rb)]))
    refine own_Go.st (fun _ kt => X16.ldc2DoubleC hx hown (mvT hZ (hw _ (List.mem_of_getElem? (i := 8) rfl))) (g := (mkF m 105 #[.val (.long p0), .second, .val (.long p1), .second, .val (.long p2), .second, .val (.int p3), .val (.int xd), .val (.int xat), .val (.int xu), .val (.int xg), .val (.ref rb), .unset, .unset, .unset, .unset, .unset, .unset, .unset, .unset, .unset, .unset, .unset] [(.int (7 : Int32)), (.ref rb)])) rfl (hb hby at_105) _ kt) ?_
    show own_Go p e below _ (T16.setTop (mkF m 108 #[.val (.long p0), .second, .val (.long p1), .second, .val (.long p2), .second, .val (.int p3), .val (.int xd), .val (.int xat), .val (.int xu), .val (.int xg), .val (.ref rb), .unset, .unset, .unset, .unset, .unset, .unset, .unset, .unset, .unset, .unset, .unset] [(.double (13888897841159471104 : UInt64)), (.int (7 : Int32)), (.ref rb)]))
    obtain ⟨T18, h18, X18, e18, W18, st18⟩ := own_dst X16 hx hZ e16 a16 (i := 7) (by decide) (by decide) (g := (mkF m 108 #[.val (.long p0), .second, .val (.long p1), .second, .val (.long p2), .second, .val (.int p3), .val (.int xd), .val (.int xat), .val (.int xu), .val (.int xg), .val (.ref rb), .unset, .unset, .unset, .unset, .unset, .unset, .unset, .unset, .unset, .unset, .unset] [(.double (13888897841159471104 : UInt64)), (.int (7 : Int32)), (.ref rb)])) rfl rfl (hb hby at_108)
    refine own_Go.st st18 ?_
    have N18 := Fr.snoc X18 N16 n0_rb
    have a18 := own_Ar.set a16 W18
    have zz19 : n0 ≤ Array.size h18 := Nat.le_trans zz17 (Nat.le_of_eq (Wr.size W18).symm)
    show own_Go p e below _ (T18.setTop (mkF m 109 #[.val (.long p0), .second, .val (.long p1), .second, .val (.long p2), .second, .val (.int p3), .val (.int xd), .val (.int xat), .val (.int xu), .val (.int xg), .val (.ref rb), .unset, .unset, .unset, .unset, .unset, .unset, .unset, .unset, .unset, .unset, .unset] []))
    refine own_Go.st (fun _ kt => XS.aload X18.here hx rfl (hb hby at_109) rfl rfl kt) ?_
    show own_Go p e below _ (T18.setTop (mkF m 111 #[.val (.long p0), .second, .val (.long p1), .second, .val (.long p2), .second, .val (.int p3), .val (.int xd), .val (.int xat), .val (.int xu), .val (.int xg), .val (.ref rb), .unset, .unset, .unset, .unset, .unset, .unset, .unset, .unset, .unset, .unset, .unset] [(.ref rb)]))
    refine own_Go.st (fun _ kt => XS.bipush X18.here hx rfl (hb hby at_111) kt) ?_
    show own_Go p e below _ (T18.setTop (mkF m 113 #[.val (.long p0), .second, .val (.long p1), .second, .val (.long p2), .second, .val (.int p3), .val (.int xd), .val (.int xat), .val (.int xu), .val (.int xg), .val (.ref rb), .unset, .unset, .unset, .unset, .unset, .unset, .unset, .unset, .unset, .unset, .unset] [(.int (8 : Int32)), (.ref rb)]))
    refine own_Go.st (fun _ kt => X18.ldc2DoubleC hx hown (mvT hZ (hw _ (List.mem_of_getElem? (i := 9) rfl))) (g := (mkF m 113 #[.val (.long p0), .second, .val (.long p1), .second, .val (.long p2), .second, .val (.int p3), .val (.int xd), .val (.int xat), .val (.int xu), .val (.int xg), .val (.ref rb), .unset, .unset, .unset, .unset, .unset, .unset, .unset, .unset, .unset, .unset, .unset] [(.int (8 : Int32)), (.ref rb)])) rfl (hb hby at_113) _ kt) ?_
    show own_Go p e below _ (T18.setTop (mkF m 116 #[.val (.long p0), .second, .val (.long p1), .second, .val (.long p2), .second, .val (.int p3), .val (.int xd), .val (.int xat), .val (.int xu), .val (.int xg), .val (.ref rb), .unset, .unset, .unset, .unset, .unset, .unset, .unset, .unset, .unset, .unset, .unset] [(.double (4666177814699966464 : UInt64)), (.int (8 : Int32)), (.ref rb)]))
    obtain ⟨T20, h20, X20, e20, W20, st20⟩ := own_dst X18 hx hZ e18 a18 (i := 8) (by decide) (by decide) (g := (mkF m 116 #[.val (.long p0), .second, .val (.long p1), .second, .val (.long p2), .second, .val (.int p3), .val (.int xd), .val (.int xat), .val (.int xu), .val (.int xg), .val (.ref rb), .unset, .unset, .unset, .unset, .unset, .unset, .unset, .unset, .unset, .unset, .unset] [(.double (4666177814699966464 : UInt64)), (.int (8 : Int32)), (.ref rb)])) rfl rfl (hb hby at_116)
    refine own_Go.st st20 ?_
    have N20 := Fr.snoc X20 N18 n0_rb
    have a20 := own_Ar.set a18 W20
    have zz21 : n0 ≤ Array.size h20 := Nat.le_trans zz19 (Nat.le_of_eq (Wr.size W20).symm)
    show own_Go p e below _ (T20.setTop (mkF m 117 #[.val (.long p0), .second, .val (.long p1), .second, .val (.long p2), .second, .val (.int p3), .val (.int xd), .val (.int xat), .val (.int xu), .val (.int xg), .val (.ref rb), .unset, .unset, .unset, .unset, .unset, .unset, .unset, .unset, .unset, .unset, .unset] []))
    refine own_Go.st (fun _ kt => XS.aload X20.here hx rfl (hb hby at_117) rfl rfl kt) ?_
    show own_Go p e below _ (T20.setTop (mkF m 119 #[.val (.long p0), .second, .val (.long p1), .second, .val (.long p2), .second, .val (.int p3), .val (.int xd), .val (.int xat), .val (.int xu), .val (.int xg), .val (.ref rb), .unset, .unset, .unset, .unset, .unset, .unset, .unset, .unset, .unset, .unset, .unset] [(.ref rb)]))
    refine own_Go.st (fun _ kt => XS.bipush X20.here hx rfl (hb hby at_119) kt) ?_
    show own_Go p e below _ (T20.setTop (mkF m 121 #[.val (.long p0), .second, .val (.long p1), .second, .val (.long p2), .second, .val (.int p3), .val (.int xd), .val (.int xat), .val (.int xu), .val (.int xg), .val (.ref rb), .unset, .unset, .unset, .unset, .unset, .unset, .unset, .unset, .unset, .unset, .unset] [(.int (9 : Int32)), (.ref rb)]))
    refine own_Go.st (fun _ kt => X20.ldc2DoubleC hx hown (mvT hZ (hw _ (List.mem_of_getElem? (i := 10) rfl))) (g := (mkF m 121 #[.val (.long p0), .second, .val (.long p1), .second, .val (.long p2), .second, .val (.int p3), .val (.int xd), .val (.int xat), .val (.int xu), .val (.int xg), .val (.ref rb), .unset, .unset, .unset, .unset, .unset, .unset, .unset, .unset, .unset, .unset, .unset] [(.int (9 : Int32)), (.ref rb)])) rfl (hb hby at_121) _ kt) ?_
    show own_Go p e below _ (T20.setTop (mkF m 124 #[.val (.long p0), .second, .val (.long p1), .second, .val (.long p2), .second, .val (.int p3), .val (.int xd), .val (.int xat), .val (.int xu), .val (.int xg), .val (.ref rb), .unset, .unset, .unset, .unset, .unset, .unset, .unset, .unset, .unset, .unset, .unset] [(.double (13890100157124444160 : UInt64)), (.int (9 : Int32)), (.ref rb)]))
    obtain ⟨T22, h22, X22, e22, W22, st22⟩ := own_dst X20 hx hZ e20 a20 (i := 9) (by decide) (by decide) (g := (mkF m 124 #[.val (.long p0), .second, .val (.long p1), .second, .val (.long p2), .second, .val (.int p3), .val (.int xd), .val (.int xat), .val (.int xu), .val (.int xg), .val (.ref rb), .unset, .unset, .unset, .unset, .unset, .unset, .unset, .unset, .unset, .unset, .unset] [(.double (13890100157124444160 : UInt64)), (.int (9 : Int32)), (.ref rb)])) rfl rfl (hb hby at_124)
    refine own_Go.st st22 ?_
    have N22 := Fr.snoc X22 N20 n0_rb
    have a22 := own_Ar.set a20 W22
    have zz23 : n0 ≤ Array.size h22 := Nat.le_trans zz21 (Nat.le_of_eq (Wr.size W22).symm)
    show own_Go p e below _ (T22.setTop (mkF m 125 #[.val (.long p0), .second, .val (.long p1), .second, .val (.long p2), .second, .val (.int p3), .val (.int xd), .val (.int xat), .val (.int xu), .val (.int xg), .val (.ref rb), .unset, .unset, .unset, .unset, .unset, .unset, .unset, .unset, .unset, .unset, .unset] []))
    refine own_Go.st (fun _ kt => XS.iload X22.here hx rfl (hb hby at_125) rfl kt) ?_
    show own_Go p e below _ (T22.setTop (mkF m 127 #[.val (.long p0), .second, .val (.long p1), .second, .val (.long p2), .second, .val (.int p3), .val (.int xd), .val (.int xat), .val (.int xu), .val (.int xg), .val (.ref rb), .unset, .unset, .unset, .unset, .unset, .unset, .unset, .unset, .unset, .unset, .unset] [(.int xd)]))
    refine own_Go.st (fun _ kt => XS.iconst X22.here hx rfl (hb hby at_127) kt) ?_
    show own_Go p e below _ (T22.setTop (mkF m 128 #[.val (.long p0), .second, .val (.long p1), .second, .val (.long p2), .second, .val (.int p3), .val (.int xd), .val (.int xat), .val (.int xu), .val (.int xg), .val (.ref rb), .unset, .unset, .unset, .unset, .unset, .unset, .unset, .unset, .unset, .unset, .unset] [(.int (1 : Int32)), (.int xd)]))
    obtain ⟨fb, ab⟩ : ∃ fb, own_Ar Z h22 rb .double 10 fb := ⟨_, a22⟩
    rcases hd with rfl | rfl | rfl
    · show own_Go p e below _ (T22.setTop (mkF m 128 #[.val (.long p0), .second, .val (.long p1), .second, .val (.long p2), .second, .val (.int p3), .val (.int (1 : Int32)), .val (.int xat), .val (.int xu), .val (.int xg), .val (.ref rb), .unset, .unset, .unset, .unset, .unset, .unset, .unset, .unset, .unset, .unset, .unset] [(.int (1 : Int32)), (.int (1 : Int32))]))
      rcases hu with rfl | rfl
      · show own_Go p e below _ (T22.setTop (mkF m 128 #[.val (.long p0), .second, .val (.long p1), .second, .val (.long p2), .second, .val (.int p3), .val (.int (1 : Int32)), .val (.int xat), .val (.int (0 : Int32)), .val (.int xg), .val (.ref rb), .unset, .unset, .unset, .unset, .unset, .unset, .unset, .unset, .unset, .unset, .unset] [(.int (1 : Int32)), (.int (1 : Int32))]))
        obtain ⟨ig, hig, lig⟩ := own_ax ((p3.toUInt32 >>> ((5 : Int32) &&& 31).toUInt32).toInt32) 1 1 (by decide) (by decide)
        rw [hxg] at hig
        refine own_Go.st (fun _ kt => XS.icmpNo X22.here hx rfl (hb hby at_128) rfl (teq rfl).2 kt) ?_
        show own_Go p e below _ (T22.setTop (mkF m 131 #[.val (.long p0), .second, .val (.long p1), .second, .val (.long p2), .second, .val (.int p3), .val (.int (1 : Int32)), .val (.int xat), .val (.int (0 : Int32)), .val (.int xg), .val (.ref rb), .unset, .unset, .unset, .unset, .unset, .unset, .unset, .unset, .unset, .unset, .unset] []))
        refine own_Go.st (fun _ kt => XS.iconst X22.here hx rfl (hb hby at_131) kt) ?_
        show own_Go p e below _ (T22.setTop (mkF m 132 #[.val (.long p0), .second, .val (.long p1), .second, .val (.long p2), .second, .val (.int p3), .val (.int (1 : Int32)), .val (.int xat), .val (.int (0 : Int32)), .val (.int xg), .val (.ref rb), .unset, .unset, .unset, .unset, .unset, .unset, .unset, .unset, .unset, .unset, .unset] [(.int (1 : Int32))]))
        obtain ⟨T24, h24, k24, X24, e24, E24, A24, st24⟩ := newP X22 hx hZ (hw _ (List.mem_of_getElem? (i := 0) rfl)) e22 (g := (mkF m 132 #[.val (.long p0), .second, .val (.long p1), .second, .val (.long p2), .second, .val (.int p3), .val (.int (1 : Int32)), .val (.int xat), .val (.int (0 : Int32)), .val (.int xg), .val (.ref rb), .unset, .unset, .unset, .unset, .unset, .unset, .unset, .unset, .unset, .unset, .unset] [(.int (1 : Int32))])) rfl (hb hby at_132) rfl (by decide) (cap := 1) (by decide) (by decide) (by decide) (by decide)
        obtain ⟨rw, g24⟩ : ∃ z, z = Array.size h22 := ⟨_, rfl⟩
        rw [← g24] at A24 st24
        refine own_Go.st st24 ?_
        have ne_rb_rw : rb ≠ rw := Nat.ne_of_lt (Nat.lt_of_lt_of_le (ab).lt (Nat.le_of_eq g24.symm))
        have n0_rw : n0 ≤ rw := Nat.le_trans zz23 (Nat.le_of_eq g24.symm)
        have zz25 : n0 ≤ Array.size h24 := Nat.le_trans zz23 E24.1
        show own_Go p e below _ (T24.setTop (mkF m 134 #[.val (.long p0), .second, .val (.long p1), .second, .val (.long p2), .second, .val (.int p3), .val (.int (1 : Int32)), .val (.int xat), .val (.int (0 : Int32)), .val (.int xg), .val (.ref rb), .unset, .unset, .unset, .unset, .unset, .unset, .unset, .unset, .unset, .unset, .unset] [(.ref rw)]))
        obtain ⟨fw, aw⟩ : ∃ fw, own_Ar Z h24 rw .double 1 fw := ⟨_, own_Ar.new A24 (by decide)⟩
        refine own_Go.st (fun _ kt => XS.goto X24.here hx rfl (pc0 := 134) (pc' := 152) rfl (hb hby at_134) (by decide) (by decide) kt) ?_
        show own_Go p e below _ (T24.setTop (mkF m 152 #[.val (.long p0), .second, .val (.long p1), .second, .val (.long p2), .second, .val (.int p3), .val (.int (1 : Int32)), .val (.int xat), .val (.int (0 : Int32)), .val (.int xg), .val (.ref rb), .unset, .unset, .unset, .unset, .unset, .unset, .unset, .unset, .unset, .unset, .unset] [(.ref rw)]))
        refine own_Go.st (fun _ kt => XS.astore X24.here hx rfl (hb hby at_152) rfl rfl (l' := #[.val (.long p0), .second, .val (.long p1), .second, .val (.long p2), .second, .val (.int p3), .val (.int (1 : Int32)), .val (.int xat), .val (.int (0 : Int32)), .val (.int xg), .val (.ref rb), .val (.ref rw), .unset, .unset, .unset, .unset, .unset, .unset, .unset, .unset, .unset, .unset]) rfl kt) ?_
        show own_Go p e below _ (T24.setTop (mkF m 154 #[.val (.long p0), .second, .val (.long p1), .second, .val (.long p2), .second, .val (.int p3), .val (.int (1 : Int32)), .val (.int xat), .val (.int (0 : Int32)), .val (.int xg), .val (.ref rb), .val (.ref rw), .unset, .unset, .unset, .unset, .unset, .unset, .unset, .unset, .unset, .unset] []))
        refine own_Go.st (fun _ kt => XS.lloadN X24.here hx rfl (hb hby at_154) rfl kt) ?_
        show own_Go p e below _ (T24.setTop (mkF m 155 #[.val (.long p0), .second, .val (.long p1), .second, .val (.long p2), .second, .val (.int p3), .val (.int (1 : Int32)), .val (.int xat), .val (.int (0 : Int32)), .val (.int xg), .val (.ref rb), .val (.ref rw), .unset, .unset, .unset, .unset, .unset, .unset, .unset, .unset, .unset, .unset] [(.long p0)]))
        refine own_Go.st (fun _ kt => XS.iload X24.here hx rfl (hb hby at_155) rfl kt) ?_
        show own_Go p e below _ (T24.setTop (mkF m 157 #[.val (.long p0), .second, .val (.long p1), .second, .val (.long p2), .second, .val (.int p3), .val (.int (1 : Int32)), .val (.int xat), .val (.int (0 : Int32)), .val (.int xg), .val (.ref rb), .val (.ref rw), .unset, .unset, .unset, .unset, .unset, .unset, .unset, .unset, .unset, .unset] [(.int (0 : Int32)), (.long p0)]))
        refine own_Go.st (fun _ kt => XS.iload X24.here hx rfl (hb hby at_157) rfl kt) ?_
        show own_Go p e below _ (T24.setTop (mkF m 159 #[.val (.long p0), .second, .val (.long p1), .second, .val (.long p2), .second, .val (.int p3), .val (.int (1 : Int32)), .val (.int xat), .val (.int (0 : Int32)), .val (.int xg), .val (.ref rb), .val (.ref rw), .unset, .unset, .unset, .unset, .unset, .unset, .unset, .unset, .unset, .unset] [(.int xg), (.int (0 : Int32)), (.long p0)]))
        refine own_Go.st (fun _ kt => XS.iconst X24.here hx rfl (hb hby at_159) kt) ?_
        show own_Go p e below _ (T24.setTop (mkF m 160 #[.val (.long p0), .second, .val (.long p1), .second, .val (.long p2), .second, .val (.int p3), .val (.int (1 : Int32)), .val (.int xat), .val (.int (0 : Int32)), .val (.int xg), .val (.ref rb), .val (.ref rw), .unset, .unset, .unset, .unset, .unset, .unset, .unset, .unset, .unset, .unset] [(.int (0 : Int32)), (.int xg), (.int (0 : Int32)), (.long p0)]))
        obtain ⟨_, _, ⟨T26, L26, k26, n26⟩, -, X26, ⟨Lc26, hQ26, l26, y26, z26⟩, st26⟩ := Jvm.LawKit.callS X24 hx (y := (⟨"com/example/thicket/thicket/PackedLevelGrownVolumePinLaw", "mode", "(ZII)I"⟩ : MethodName)) hown (mvT hZ (hw _ (List.mem_of_getElem? (i := 11) rfl))) (mvT hZ (hw _ (List.mem_of_getElem? (i := 12) rfl))) (mvT hZ (hw _ (List.mem_of_getElem? (i := 13) rfl))) (mvT hZ (hw _ (List.mem_of_getElem? (i := 14) rfl))) (by decide) (backOf (W := 2) (own_mode l Z a0 hw [] (0 : Int32) xg (0 : Int32) h24 n0 zz25 ) hZ (hw _ (List.mem_of_getElem? (i := 14) rfl)) (hw _ (List.mem_of_getElem? (i := 13) rfl)) (by decide) (by decide)) (g := (mkF m 160 #[.val (.long p0), .second, .val (.long p1), .second, .val (.long p2), .second, .val (.int p3), .val (.int (1 : Int32)), .val (.int xat), .val (.int (0 : Int32)), .val (.int xg), .val (.ref rb), .val (.ref rw), .unset, .unset, .unset, .unset, .unset, .unset, .unset, .unset, .unset, .unset] [(.int (0 : Int32)), (.int xg), (.int (0 : Int32)), (.long p0)])) rfl (by rw [hml]; rfl) (argsL := [(.int (0 : Int32)), (.int xg), (.int (0 : Int32))]) (rest := [(.long p0)]) (lenOf own_pd1 rfl) rfl (by show 2 * 0 + _ ≤ _; exact Nat.le_of_eq rfl) (hb hby at_160) (fun _ _ => ⟨rfl, e24, (by decide : 2 + 0 ≤ _), (by decide : 11 + 0 ≤ _)⟩)
        dsimp only [Pt.U, Pt.locs, Pt.cells, Pt.slots] at X26 l26 y26 z26 st26 hQ26
        subst l26 y26 z26
        obtain ⟨rfl, N26q, hh26⟩ := hQ26
        have N26 := Fr.app N22 N26q
        refine own_Go.st (fun _ kt => st26 _ kt) ?_
        show own_Go p e below _ (T26.setTop (mkF m 163 #[.val (.long p0), .second, .val (.long p1), .second, .val (.long p2), .second, .val (.int p3), .val (.int (1 : Int32)), .val (.int xat), .val (.int (0 : Int32)), .val (.int xg), .val (.ref rb), .val (.ref rw), .unset, .unset, .unset, .unset, .unset, .unset, .unset, .unset, .unset, .unset] [(.int (if (0 : Int32) = 0 then (0 : Int32) else if (0 : Int32) = xg then 1 else 2)), (.long p0)]))
        rw [show (if (0 : Int32) = 0 then (0 : Int32) else if (0 : Int32) = xg then 1 else 2) = (0 : Int32) from (by simp)]
        show own_Go p e below _ (T26.setTop (mkF m 163 #[.val (.long p0), .second, .val (.long p1), .second, .val (.long p2), .second, .val (.int p3), .val (.int (1 : Int32)), .val (.int xat), .val (.int (0 : Int32)), .val (.int xg), .val (.ref rb), .val (.ref rw), .unset, .unset, .unset, .unset, .unset, .unset, .unset, .unset, .unset, .unset] [(.int (0 : Int32)), (.long p0)]))
        refine own_Go.st (fun _ kt => XS.aload X26.here hx rfl (hb hby at_163) rfl rfl kt) ?_
        show own_Go p e below _ (T26.setTop (mkF m 165 #[.val (.long p0), .second, .val (.long p1), .second, .val (.long p2), .second, .val (.int p3), .val (.int (1 : Int32)), .val (.int xat), .val (.int (0 : Int32)), .val (.int xg), .val (.ref rb), .val (.ref rw), .unset, .unset, .unset, .unset, .unset, .unset, .unset, .unset, .unset, .unset] [(.ref rb), (.int (0 : Int32)), (.long p0)]))
        refine own_Go.st (fun _ kt => XS.iload X26.here hx rfl (hb hby at_165) rfl kt) ?_
        show own_Go p e below _ (T26.setTop (mkF m 167 #[.val (.long p0), .second, .val (.long p1), .second, .val (.long p2), .second, .val (.int p3), .val (.int (1 : Int32)), .val (.int xat), .val (.int (0 : Int32)), .val (.int xg), .val (.ref rb), .val (.ref rw), .unset, .unset, .unset, .unset, .unset, .unset, .unset, .unset, .unset, .unset] [(.int xat), (.ref rb), (.int (0 : Int32)), (.long p0)]))
        refine own_Go.st (fun _ kt => XS.iload X26.here hx rfl (hb hby at_167) rfl kt) ?_
        show own_Go p e below _ (T26.setTop (mkF m 169 #[.val (.long p0), .second, .val (.long p1), .second, .val (.long p2), .second, .val (.int p3), .val (.int (1 : Int32)), .val (.int xat), .val (.int (0 : Int32)), .val (.int xg), .val (.ref rb), .val (.ref rw), .unset, .unset, .unset, .unset, .unset, .unset, .unset, .unset, .unset, .unset] [(.int xat), (.int xat), (.ref rb), (.int (0 : Int32)), (.long p0)]))
        refine own_Go.st (fun _ kt => XS.iload X26.here hx rfl (hb hby at_169) rfl kt) ?_
        show own_Go p e below _ (T26.setTop (mkF m 171 #[.val (.long p0), .second, .val (.long p1), .second, .val (.long p2), .second, .val (.int p3), .val (.int (1 : Int32)), .val (.int xat), .val (.int (0 : Int32)), .val (.int xg), .val (.ref rb), .val (.ref rw), .unset, .unset, .unset, .unset, .unset, .unset, .unset, .unset, .unset, .unset] [(.int (1 : Int32)), (.int xat), (.int xat), (.ref rb), (.int (0 : Int32)), (.long p0)]))
        refine own_Go.st (fun _ kt => XS.iadd X26.here hx rfl (hb hby at_171) rfl kt) ?_
        show own_Go p e below _ (T26.setTop (mkF m 172 #[.val (.long p0), .second, .val (.long p1), .second, .val (.long p2), .second, .val (.int p3), .val (.int (1 : Int32)), .val (.int xat), .val (.int (0 : Int32)), .val (.int xg), .val (.ref rb), .val (.ref rw), .unset, .unset, .unset, .unset, .unset, .unset, .unset, .unset, .unset, .unset] [(.int (xat + (1 : Int32))), (.int xat), (.ref rb), (.int (0 : Int32)), (.long p0)]))
        refine own_Go.st (fun _ kt => XS.aload X26.here hx rfl (hb hby at_172) rfl rfl kt) ?_
        show own_Go p e below _ (T26.setTop (mkF m 174 #[.val (.long p0), .second, .val (.long p1), .second, .val (.long p2), .second, .val (.int p3), .val (.int (1 : Int32)), .val (.int xat), .val (.int (0 : Int32)), .val (.int xg), .val (.ref rb), .val (.ref rw), .unset, .unset, .unset, .unset, .unset, .unset, .unset, .unset, .unset, .unset] [(.ref rw), (.int (xat + (1 : Int32))), (.int xat), (.ref rb), (.int (0 : Int32)), (.long p0)]))
        refine own_Go.st (fun _ kt => XS.iconst X26.here hx rfl (hb hby at_174) kt) ?_
        show own_Go p e below _ (T26.setTop (mkF m 175 #[.val (.long p0), .second, .val (.long p1), .second, .val (.long p2), .second, .val (.int p3), .val (.int (1 : Int32)), .val (.int xat), .val (.int (0 : Int32)), .val (.int xg), .val (.ref rb), .val (.ref rw), .unset, .unset, .unset, .unset, .unset, .unset, .unset, .unset, .unset, .unset] [(.int (0 : Int32)), (.ref rw), (.int (xat + (1 : Int32))), (.int xat), (.ref rb), (.int (0 : Int32)), (.long p0)]))
        have f27 := (ab.ext E24)
        obtain ⟨_, _, ⟨T28, L28, k28, n28⟩, -, X28, ⟨Lc28, hQ28, l28, y28, z28⟩, st28⟩ := Jvm.LawKit.callS X26 hx (y := (⟨"com/example/thicket/thicket/PackedLevelGrownVolumePinLaw", "fill", "(JI[DII[DI)J"⟩ : MethodName)) hown (mvT hZ (hw _ (List.mem_of_getElem? (i := 15) rfl))) (mvT hZ (hw _ (List.mem_of_getElem? (i := 16) rfl))) (mvT hZ (hw _ (List.mem_of_getElem? (i := 13) rfl))) (mvT hZ (hw _ (List.mem_of_getElem? (i := 17) rfl))) (by decide) (backOf (W := 0) (own_fill l Z a0 hw [] p0 (0 : Int32) rb xat (xat + (1 : Int32)) rw (0 : Int32) ia (ia + 1) 0 1 fb fw h24 n0 zz25 f27 aw ne_rb_rw n0_rb n0_rw hat (own_addn hat (e := 1) (by decide) (by omega) (by decide)) (by decide) (by omega) (by omega) (by decide) (by decide)) hZ (hw _ (List.mem_of_getElem? (i := 17) rfl)) (hw _ (List.mem_of_getElem? (i := 13) rfl)) (by decide) (by decide)) (g := (mkF m 175 #[.val (.long p0), .second, .val (.long p1), .second, .val (.long p2), .second, .val (.int p3), .val (.int (1 : Int32)), .val (.int xat), .val (.int (0 : Int32)), .val (.int xg), .val (.ref rb), .val (.ref rw), .unset, .unset, .unset, .unset, .unset, .unset, .unset, .unset, .unset, .unset] [(.int (0 : Int32)), (.ref rw), (.int (xat + (1 : Int32))), (.int xat), (.ref rb), (.int (0 : Int32)), (.long p0)])) rfl (by rw [hml]; rfl) (argsL := [(.long p0), (.int (0 : Int32)), (.ref rb), (.int xat), (.int (xat + (1 : Int32))), (.ref rw), (.int (0 : Int32))]) (rest := []) (lenOf own_pd2 rfl) rfl (by show 2 * 0 + _ ≤ _; exact Nat.le_of_eq rfl) (hb hby at_175) (fun _ _ => ⟨rfl, hh26, (by decide : 2 + 0 ≤ _), (by decide : 11 + 0 ≤ _)⟩)
        dsimp only [Pt.U, Pt.locs, Pt.cells, Pt.slots] at X28 l28 y28 z28 st28 hQ28
        subst l28 y28 z28
        obtain ⟨vn0, x0, y0, z0, G0, rfl, N28q, ex28, e228, e328, ab28, aw28, KF28⟩ := hQ28
        have N28 := Fr.app N26 N28q
        refine own_Go.st (fun _ kt => st28 _ kt) ?_
        have zz29 : n0 ≤ Array.size T28.heap := Nat.le_trans zz25 KF28.1
        show own_Go p e below _ (T28.setTop (mkF m 178 #[.val (.long p0), .second, .val (.long p1), .second, .val (.long p2), .second, .val (.int p3), .val (.int (1 : Int32)), .val (.int xat), .val (.int (0 : Int32)), .val (.int xg), .val (.ref rb), .val (.ref rw), .unset, .unset, .unset, .unset, .unset, .unset, .unset, .unset, .unset, .unset] [(.long vn0)]))
        generalize hfb1 : (fun j => if j = (ia + 1) then Value.double y0 else if j = ia then Value.double x0 else fb j) = fb1 at ab28
        generalize hfw1 : (fun j => if j = 0 then Value.double z0 else fw j) = fw1 at aw28
        have hN0 : vn0.toInt = G0 := e328 (by decide)
        refine own_Go.st (fun _ kt => XS.lstore X28.here hx rfl (hb hby at_178) rfl (l' := #[.val (.long p0), .second, .val (.long p1), .second, .val (.long p2), .second, .val (.int p3), .val (.int (1 : Int32)), .val (.int xat), .val (.int (0 : Int32)), .val (.int xg), .val (.ref rb), .val (.ref rw), .val (.long vn0), .second, .unset, .unset, .unset, .unset, .unset, .unset, .unset, .unset]) rfl kt) ?_
        show own_Go p e below _ (T28.setTop (mkF m 180 #[.val (.long p0), .second, .val (.long p1), .second, .val (.long p2), .second, .val (.int p3), .val (.int (1 : Int32)), .val (.int xat), .val (.int (0 : Int32)), .val (.int xg), .val (.ref rb), .val (.ref rw), .val (.long vn0), .second, .unset, .unset, .unset, .unset, .unset, .unset, .unset, .unset] []))
        refine own_Go.st (fun _ kt => XS.iload X28.here hx rfl (hb hby at_180) rfl kt) ?_
        show own_Go p e below _ (T28.setTop (mkF m 182 #[.val (.long p0), .second, .val (.long p1), .second, .val (.long p2), .second, .val (.int p3), .val (.int (1 : Int32)), .val (.int xat), .val (.int (0 : Int32)), .val (.int xg), .val (.ref rb), .val (.ref rw), .val (.long vn0), .second, .unset, .unset, .unset, .unset, .unset, .unset, .unset, .unset] [(.int (1 : Int32))]))
        refine own_Go.st (fun _ kt => XS.iconst X28.here hx rfl (hb hby at_182) kt) ?_
        show own_Go p e below _ (T28.setTop (mkF m 183 #[.val (.long p0), .second, .val (.long p1), .second, .val (.long p2), .second, .val (.int p3), .val (.int (1 : Int32)), .val (.int xat), .val (.int (0 : Int32)), .val (.int xg), .val (.ref rb), .val (.ref rw), .val (.long vn0), .second, .unset, .unset, .unset, .unset, .unset, .unset, .unset, .unset] [(.int (1 : Int32)), (.int (1 : Int32))]))
        refine own_Go.st (fun _ kt => XS.icmpYes X28.here hx rfl (pc0 := 183) (pc' := 217) rfl (hb hby at_183) rfl (flt (by decide)).2.2.2 (by decide) (by decide) kt) ?_
        show own_Go p e below _ (T28.setTop (mkF m 217 #[.val (.long p0), .second, .val (.long p1), .second, .val (.long p2), .second, .val (.int p3), .val (.int (1 : Int32)), .val (.int xat), .val (.int (0 : Int32)), .val (.int xg), .val (.ref rb), .val (.ref rw), .val (.long vn0), .second, .unset, .unset, .unset, .unset, .unset, .unset, .unset, .unset] []))
        refine own_Go.st (fun _ kt => XS.lconst X28.here hx rfl (hb hby at_217) kt) ?_
        show own_Go p e below _ (T28.setTop (mkF m 218 #[.val (.long p0), .second, .val (.long p1), .second, .val (.long p2), .second, .val (.int p3), .val (.int (1 : Int32)), .val (.int xat), .val (.int (0 : Int32)), .val (.int xg), .val (.ref rb), .val (.ref rw), .val (.long vn0), .second, .unset, .unset, .unset, .unset, .unset, .unset, .unset, .unset] [(.long (1 : Int64))]))
        refine own_Go.st (fun _ kt => XS.lstore X28.here hx rfl (hb hby at_218) rfl (l' := #[.val (.long p0), .second, .val (.long p1), .second, .val (.long p2), .second, .val (.int p3), .val (.int (1 : Int32)), .val (.int xat), .val (.int (0 : Int32)), .val (.int xg), .val (.ref rb), .val (.ref rw), .val (.long vn0), .second, .val (.long (1 : Int64)), .second, .unset, .unset, .unset, .unset, .unset, .unset]) rfl kt) ?_
        show own_Go p e below _ (T28.setTop (mkF m 220 #[.val (.long p0), .second, .val (.long p1), .second, .val (.long p2), .second, .val (.int p3), .val (.int (1 : Int32)), .val (.int xat), .val (.int (0 : Int32)), .val (.int xg), .val (.ref rb), .val (.ref rw), .val (.long vn0), .second, .val (.long (1 : Int64)), .second, .unset, .unset, .unset, .unset, .unset, .unset] []))
        refine own_Go.st (fun _ kt => XS.iload X28.here hx rfl (hb hby at_220) rfl kt) ?_
        show own_Go p e below _ (T28.setTop (mkF m 222 #[.val (.long p0), .second, .val (.long p1), .second, .val (.long p2), .second, .val (.int p3), .val (.int (1 : Int32)), .val (.int xat), .val (.int (0 : Int32)), .val (.int xg), .val (.ref rb), .val (.ref rw), .val (.long vn0), .second, .val (.long (1 : Int64)), .second, .unset, .unset, .unset, .unset, .unset, .unset] [(.int (1 : Int32))]))
        refine own_Go.st (fun _ kt => XS.iconst X28.here hx rfl (hb hby at_222) kt) ?_
        show own_Go p e below _ (T28.setTop (mkF m 223 #[.val (.long p0), .second, .val (.long p1), .second, .val (.long p2), .second, .val (.int p3), .val (.int (1 : Int32)), .val (.int xat), .val (.int (0 : Int32)), .val (.int xg), .val (.ref rb), .val (.ref rw), .val (.long vn0), .second, .val (.long (1 : Int64)), .second, .unset, .unset, .unset, .unset, .unset, .unset] [(.int (2 : Int32)), (.int (1 : Int32))]))
        refine own_Go.st (fun _ kt => XS.icmpYes X28.here hx rfl (pc0 := 223) (pc' := 258) rfl (hb hby at_223) rfl (flt (by decide)).2.2.2 (by decide) (by decide) kt) ?_
        show own_Go p e below _ (T28.setTop (mkF m 258 #[.val (.long p0), .second, .val (.long p1), .second, .val (.long p2), .second, .val (.int p3), .val (.int (1 : Int32)), .val (.int xat), .val (.int (0 : Int32)), .val (.int xg), .val (.ref rb), .val (.ref rw), .val (.long vn0), .second, .val (.long (1 : Int64)), .second, .unset, .unset, .unset, .unset, .unset, .unset] []))
        refine own_Go.st (fun _ kt => XS.lconst X28.here hx rfl (hb hby at_258) kt) ?_
        show own_Go p e below _ (T28.setTop (mkF m 259 #[.val (.long p0), .second, .val (.long p1), .second, .val (.long p2), .second, .val (.int p3), .val (.int (1 : Int32)), .val (.int xat), .val (.int (0 : Int32)), .val (.int xg), .val (.ref rb), .val (.ref rw), .val (.long vn0), .second, .val (.long (1 : Int64)), .second, .unset, .unset, .unset, .unset, .unset, .unset] [(.long (1 : Int64))]))
        refine own_Go.st (fun _ kt => XS.lstore X28.here hx rfl (hb hby at_259) rfl (l' := #[.val (.long p0), .second, .val (.long p1), .second, .val (.long p2), .second, .val (.int p3), .val (.int (1 : Int32)), .val (.int xat), .val (.int (0 : Int32)), .val (.int xg), .val (.ref rb), .val (.ref rw), .val (.long vn0), .second, .val (.long (1 : Int64)), .second, .val (.long (1 : Int64)), .second, .unset, .unset, .unset, .unset]) rfl kt) ?_
        show own_Go p e below _ (T28.setTop (mkF m 261 #[.val (.long p0), .second, .val (.long p1), .second, .val (.long p2), .second, .val (.int p3), .val (.int (1 : Int32)), .val (.int xat), .val (.int (0 : Int32)), .val (.int xg), .val (.ref rb), .val (.ref rw), .val (.long vn0), .second, .val (.long (1 : Int64)), .second, .val (.long (1 : Int64)), .second, .unset, .unset, .unset, .unset] []))
        refine own_Go.st (fun _ kt => XS.aload X28.here hx rfl (hb hby at_261) rfl rfl kt) ?_
        show own_Go p e below _ (T28.setTop (mkF m 263 #[.val (.long p0), .second, .val (.long p1), .second, .val (.long p2), .second, .val (.int p3), .val (.int (1 : Int32)), .val (.int xat), .val (.int (0 : Int32)), .val (.int xg), .val (.ref rb), .val (.ref rw), .val (.long vn0), .second, .val (.long (1 : Int64)), .second, .val (.long (1 : Int64)), .second, .unset, .unset, .unset, .unset] [(.ref rb)]))
        refine own_Go.st (fun _ kt => XS.iload X28.here hx rfl (hb hby at_263) rfl kt) ?_
        show own_Go p e below _ (T28.setTop (mkF m 265 #[.val (.long p0), .second, .val (.long p1), .second, .val (.long p2), .second, .val (.int p3), .val (.int (1 : Int32)), .val (.int xat), .val (.int (0 : Int32)), .val (.int xg), .val (.ref rb), .val (.ref rw), .val (.long vn0), .second, .val (.long (1 : Int64)), .second, .val (.long (1 : Int64)), .second, .unset, .unset, .unset, .unset] [(.int xat), (.ref rb)]))
        refine own_Go.st (fun _ kt => XS.aload X28.here hx rfl (hb hby at_265) rfl rfl kt) ?_
        show own_Go p e below _ (T28.setTop (mkF m 267 #[.val (.long p0), .second, .val (.long p1), .second, .val (.long p2), .second, .val (.int p3), .val (.int (1 : Int32)), .val (.int xat), .val (.int (0 : Int32)), .val (.int xg), .val (.ref rb), .val (.ref rw), .val (.long vn0), .second, .val (.long (1 : Int64)), .second, .val (.long (1 : Int64)), .second, .unset, .unset, .unset, .unset] [(.ref rw), (.int xat), (.ref rb)]))
        have fx0 : fb1 (ia + 0) = .double x0 := by
          subst hfb1
          dsimp only
          repeat (first | rw [if_pos (by omega)] | rw [if_neg (by omega)])
        have fy0 : fb1 (ia + 1 + 0) = .double y0 := by
          subst hfb1
          dsimp only
          repeat (first | rw [if_pos (by omega)] | rw [if_neg (by omega)])
        have fz0 : fw1 0 = .double z0 := by
          subst hfw1
          rfl
        have bN0 := own_nb ex28
        obtain ⟨_, _, ⟨T30, L30, k30, n30⟩, -, X30, ⟨Lc30, hQ30, l30, y30, z30⟩, st30⟩ := Jvm.LawKit.callS X28 hx (y := (⟨"com/example/thicket/thicket/PackedLevel", "grownVolume", "([DI[D)D"⟩ : MethodName)) hown (mvT hZ (hw _ (List.mem_of_getElem? (i := 28) rfl))) (mvT hZ (hw _ (List.mem_of_getElem? (i := 29) rfl))) (mvT hZ (hw _ (List.mem_of_getElem? (i := 30) rfl))) (mvT hZ (hw _ (List.mem_of_getElem? (i := 31) rfl))) (by decide) (backOf (W := 0) (own_gv1 l Z a0 hw [] rb xat rw ia fb1 fw1 x0 y0 z0 G0 1072  T28.heap n0 zz29 ab28 aw28 hat la ex28 (by decide) fx0 fy0 fz0 ) hZ (hw _ (List.mem_of_getElem? (i := 31) rfl)) (hw _ (List.mem_of_getElem? (i := 30) rfl)) (by decide) (by decide)) (g := (mkF m 267 #[.val (.long p0), .second, .val (.long p1), .second, .val (.long p2), .second, .val (.int p3), .val (.int (1 : Int32)), .val (.int xat), .val (.int (0 : Int32)), .val (.int xg), .val (.ref rb), .val (.ref rw), .val (.long vn0), .second, .val (.long (1 : Int64)), .second, .val (.long (1 : Int64)), .second, .unset, .unset, .unset, .unset] [(.ref rw), (.int xat), (.ref rb)])) rfl (by rw [hml]; rfl) (argsL := [(.ref rb), (.int xat), (.ref rw)]) (rest := []) (lenOf own_pd3 rfl) rfl (by show 2 * 0 + _ ≤ _; exact Nat.le_of_eq rfl) (hb hby at_267) (fun _ _ => ⟨rfl, rfl, (by decide : 2 + 0 ≤ _), (by decide : 11 + 0 ≤ _)⟩)
        dsimp only [Pt.U, Pt.locs, Pt.cells, Pt.slots] at X30 l30 y30 z30 st30 hQ30
        subst l30 y30 z30
        obtain ⟨d, rfl, N30q, hv30, hh30⟩ := hQ30
        have N30 := Fr.app N28 N30q
        refine own_Go.st (fun _ kt => st30 _ kt) ?_
        show own_Go p e below _ (T30.setTop (mkF m 270 #[.val (.long p0), .second, .val (.long p1), .second, .val (.long p2), .second, .val (.int p3), .val (.int (1 : Int32)), .val (.int xat), .val (.int (0 : Int32)), .val (.int xg), .val (.ref rb), .val (.ref rw), .val (.long vn0), .second, .val (.long (1 : Int64)), .second, .val (.long (1 : Int64)), .second, .unset, .unset, .unset, .unset] [(.double d)]))
        refine own_Go.st (fun _ kt => XS.dstore X30.here hx rfl (hb hby at_270) rfl (l' := #[.val (.long p0), .second, .val (.long p1), .second, .val (.long p2), .second, .val (.int p3), .val (.int (1 : Int32)), .val (.int xat), .val (.int (0 : Int32)), .val (.int xg), .val (.ref rb), .val (.ref rw), .val (.long vn0), .second, .val (.long (1 : Int64)), .second, .val (.long (1 : Int64)), .second, .val (.double d), .second, .unset, .unset]) rfl kt) ?_
        show own_Go p e below _ (T30.setTop (mkF m 272 #[.val (.long p0), .second, .val (.long p1), .second, .val (.long p2), .second, .val (.int p3), .val (.int (1 : Int32)), .val (.int xat), .val (.int (0 : Int32)), .val (.int xg), .val (.ref rb), .val (.ref rw), .val (.long vn0), .second, .val (.long (1 : Int64)), .second, .val (.long (1 : Int64)), .second, .val (.double d), .second, .unset, .unset] []))
        refine own_Go.st (fun _ kt => XS.iload X30.here hx rfl (hb hby at_272) rfl kt) ?_
        show own_Go p e below _ (T30.setTop (mkF m 274 #[.val (.long p0), .second, .val (.long p1), .second, .val (.long p2), .second, .val (.int p3), .val (.int (1 : Int32)), .val (.int xat), .val (.int (0 : Int32)), .val (.int xg), .val (.ref rb), .val (.ref rw), .val (.long vn0), .second, .val (.long (1 : Int64)), .second, .val (.long (1 : Int64)), .second, .val (.double d), .second, .unset, .unset] [(.int (0 : Int32))]))
        refine own_Go.st (fun _ kt => XS.ifYes X30.here hx rfl (pc0 := 274) (pc' := 321) rfl (hb hby at_274) rfl ((if0 _ _).trans (teq rfl).1) (by decide) (by decide) kt) ?_
        show own_Go p e below _ (T30.setTop (mkF m 321 #[.val (.long p0), .second, .val (.long p1), .second, .val (.long p2), .second, .val (.int p3), .val (.int (1 : Int32)), .val (.int xat), .val (.int (0 : Int32)), .val (.int xg), .val (.ref rb), .val (.ref rw), .val (.long vn0), .second, .val (.long (1 : Int64)), .second, .val (.long (1 : Int64)), .second, .val (.double d), .second, .unset, .unset] []))
        refine own_Go.st (fun _ kt => XS.iload X30.here hx rfl (hb hby at_321) rfl kt) ?_
        show own_Go p e below _ (T30.setTop (mkF m 323 #[.val (.long p0), .second, .val (.long p1), .second, .val (.long p2), .second, .val (.int p3), .val (.int (1 : Int32)), .val (.int xat), .val (.int (0 : Int32)), .val (.int xg), .val (.ref rb), .val (.ref rw), .val (.long vn0), .second, .val (.long (1 : Int64)), .second, .val (.long (1 : Int64)), .second, .val (.double d), .second, .unset, .unset] [(.int (1 : Int32))]))
        refine own_Go.st (fun _ kt => XS.iconst X30.here hx rfl (hb hby at_323) kt) ?_
        show own_Go p e below _ (T30.setTop (mkF m 324 #[.val (.long p0), .second, .val (.long p1), .second, .val (.long p2), .second, .val (.int p3), .val (.int (1 : Int32)), .val (.int xat), .val (.int (0 : Int32)), .val (.int xg), .val (.ref rb), .val (.ref rw), .val (.long vn0), .second, .val (.long (1 : Int64)), .second, .val (.long (1 : Int64)), .second, .val (.double d), .second, .unset, .unset] [(.int (1 : Int32)), (.int (1 : Int32))]))
        refine own_Go.st (fun _ kt => XS.icmpNo X30.here hx rfl (hb hby at_324) rfl (teq rfl).2 kt) ?_
        show own_Go p e below _ (T30.setTop (mkF m 327 #[.val (.long p0), .second, .val (.long p1), .second, .val (.long p2), .second, .val (.int p3), .val (.int (1 : Int32)), .val (.int xat), .val (.int (0 : Int32)), .val (.int xg), .val (.ref rb), .val (.ref rw), .val (.long vn0), .second, .val (.long (1 : Int64)), .second, .val (.long (1 : Int64)), .second, .val (.double d), .second, .unset, .unset] []))
        refine own_Go.st (fun _ kt => X30.ldc2DoubleC hx hown (mvT hZ (hw _ (List.mem_of_getElem? (i := 27) rfl))) (g := (mkF m 327 #[.val (.long p0), .second, .val (.long p1), .second, .val (.long p2), .second, .val (.int p3), .val (.int (1 : Int32)), .val (.int xat), .val (.int (0 : Int32)), .val (.int xg), .val (.ref rb), .val (.ref rw), .val (.long vn0), .second, .val (.long (1 : Int64)), .second, .val (.long (1 : Int64)), .second, .val (.double d), .second, .unset, .unset] [])) rfl (hb hby at_327) _ kt) ?_
        show own_Go p e below _ (T30.setTop (mkF m 330 #[.val (.long p0), .second, .val (.long p1), .second, .val (.long p2), .second, .val (.int p3), .val (.int (1 : Int32)), .val (.int xat), .val (.int (0 : Int32)), .val (.int xg), .val (.ref rb), .val (.ref rw), .val (.long vn0), .second, .val (.long (1 : Int64)), .second, .val (.long (1 : Int64)), .second, .val (.double d), .second, .unset, .unset] [(.double (4616189618054758400 : UInt64))]))
        refine own_Go.st (fun _ kt => XS.goto X30.here hx rfl (pc0 := 330) (pc' := 348) rfl (hb hby at_330) (by decide) (by decide) kt) ?_
        show own_Go p e below _ (T30.setTop (mkF m 348 #[.val (.long p0), .second, .val (.long p1), .second, .val (.long p2), .second, .val (.int p3), .val (.int (1 : Int32)), .val (.int xat), .val (.int (0 : Int32)), .val (.int xg), .val (.ref rb), .val (.ref rw), .val (.long vn0), .second, .val (.long (1 : Int64)), .second, .val (.long (1 : Int64)), .second, .val (.double d), .second, .unset, .unset] [(.double (4616189618054758400 : UInt64))]))
        refine own_Go.st (fun _ kt => XS.dstore X30.here hx rfl (hb hby at_348) rfl (l' := #[.val (.long p0), .second, .val (.long p1), .second, .val (.long p2), .second, .val (.int p3), .val (.int (1 : Int32)), .val (.int xat), .val (.int (0 : Int32)), .val (.int xg), .val (.ref rb), .val (.ref rw), .val (.long vn0), .second, .val (.long (1 : Int64)), .second, .val (.long (1 : Int64)), .second, .val (.double d), .second, .val (.double (4616189618054758400 : UInt64)), .second]) rfl kt) ?_
        show own_Go p e below _ (T30.setTop (mkF m 350 #[.val (.long p0), .second, .val (.long p1), .second, .val (.long p2), .second, .val (.int p3), .val (.int (1 : Int32)), .val (.int xat), .val (.int (0 : Int32)), .val (.int xg), .val (.ref rb), .val (.ref rw), .val (.long vn0), .second, .val (.long (1 : Int64)), .second, .val (.long (1 : Int64)), .second, .val (.double d), .second, .val (.double (4616189618054758400 : UInt64)), .second] []))
        refine own_Go.st (fun _ kt => XS.dload X30.here hx rfl (hb hby at_350) rfl kt) ?_
        show own_Go p e below _ (T30.setTop (mkF m 352 #[.val (.long p0), .second, .val (.long p1), .second, .val (.long p2), .second, .val (.int p3), .val (.int (1 : Int32)), .val (.int xat), .val (.int (0 : Int32)), .val (.int xg), .val (.ref rb), .val (.ref rw), .val (.long vn0), .second, .val (.long (1 : Int64)), .second, .val (.long (1 : Int64)), .second, .val (.double d), .second, .val (.double (4616189618054758400 : UInt64)), .second] [(.double d)]))
        refine own_Go.st (fun _ kt => XS.dload X30.here hx rfl (hb hby at_352) rfl kt) ?_
        show own_Go p e below _ (T30.setTop (mkF m 354 #[.val (.long p0), .second, .val (.long p1), .second, .val (.long p2), .second, .val (.int p3), .val (.int (1 : Int32)), .val (.int xat), .val (.int (0 : Int32)), .val (.int xg), .val (.ref rb), .val (.ref rw), .val (.long vn0), .second, .val (.long (1 : Int64)), .second, .val (.long (1 : Int64)), .second, .val (.double d), .second, .val (.double (4616189618054758400 : UInt64)), .second] [(.double (4616189618054758400 : UInt64)), (.double d)]))
        have hm := own_mulP (D := 1072) hv30 own_D4 (by decide) (by rw [own_sc1]; exact own_rep _ _ (by omega) (by decide))
        refine own_Go.st (fun _ kt => XS.dmulS X30.here hx rfl (hb hby at_354) rfl (hm.n64) rfl kt) ?_
        show own_Go p e below _ (T30.setTop (mkF m 355 #[.val (.long p0), .second, .val (.long p1), .second, .val (.long p2), .second, .val (.int p3), .val (.int (1 : Int32)), .val (.int xat), .val (.int (0 : Int32)), .val (.int xg), .val (.ref rb), .val (.ref rw), .val (.long vn0), .second, .val (.long (1 : Int64)), .second, .val (.long (1 : Int64)), .second, .val (.double d), .second, .val (.double (4616189618054758400 : UInt64)), .second] [(.double (FP.dmul d (4616189618054758400 : UInt64)))]))
        refine own_Go.st (fun _ kt => XS.lload X30.here hx rfl (hb hby at_355) rfl kt) ?_
        show own_Go p e below _ (T30.setTop (mkF m 357 #[.val (.long p0), .second, .val (.long p1), .second, .val (.long p2), .second, .val (.int p3), .val (.int (1 : Int32)), .val (.int xat), .val (.int (0 : Int32)), .val (.int xg), .val (.ref rb), .val (.ref rw), .val (.long vn0), .second, .val (.long (1 : Int64)), .second, .val (.long (1 : Int64)), .second, .val (.double d), .second, .val (.double (4616189618054758400 : UInt64)), .second] [(.long vn0), (.double (FP.dmul d (4616189618054758400 : UInt64)))]))
        refine own_Go.st (fun _ kt => XS.lload X30.here hx rfl (hb hby at_357) rfl kt) ?_
        show own_Go p e below _ (T30.setTop (mkF m 359 #[.val (.long p0), .second, .val (.long p1), .second, .val (.long p2), .second, .val (.int p3), .val (.int (1 : Int32)), .val (.int xat), .val (.int (0 : Int32)), .val (.int xg), .val (.ref rb), .val (.ref rw), .val (.long vn0), .second, .val (.long (1 : Int64)), .second, .val (.long (1 : Int64)), .second, .val (.double d), .second, .val (.double (4616189618054758400 : UInt64)), .second] [(.long (1 : Int64)), (.long vn0), (.double (FP.dmul d (4616189618054758400 : UInt64)))]))
        refine own_Go.st (fun _ kt => XS.lmul X30.here hx rfl (hb hby at_359) rfl kt) ?_
        show own_Go p e below _ (T30.setTop (mkF m 360 #[.val (.long p0), .second, .val (.long p1), .second, .val (.long p2), .second, .val (.int p3), .val (.int (1 : Int32)), .val (.int xat), .val (.int (0 : Int32)), .val (.int xg), .val (.ref rb), .val (.ref rw), .val (.long vn0), .second, .val (.long (1 : Int64)), .second, .val (.long (1 : Int64)), .second, .val (.double d), .second, .val (.double (4616189618054758400 : UInt64)), .second] [(.long (vn0 * (1 : Int64))), (.double (FP.dmul d (4616189618054758400 : UInt64)))]))
        refine own_Go.st (fun _ kt => XS.lload X30.here hx rfl (hb hby at_360) rfl kt) ?_
        show own_Go p e below _ (T30.setTop (mkF m 362 #[.val (.long p0), .second, .val (.long p1), .second, .val (.long p2), .second, .val (.int p3), .val (.int (1 : Int32)), .val (.int xat), .val (.int (0 : Int32)), .val (.int xg), .val (.ref rb), .val (.ref rw), .val (.long vn0), .second, .val (.long (1 : Int64)), .second, .val (.long (1 : Int64)), .second, .val (.double d), .second, .val (.double (4616189618054758400 : UInt64)), .second] [(.long (1 : Int64)), (.long (vn0 * (1 : Int64))), (.double (FP.dmul d (4616189618054758400 : UInt64)))]))
        refine own_Go.st (fun _ kt => XS.lmul X30.here hx rfl (hb hby at_362) rfl kt) ?_
        show own_Go p e below _ (T30.setTop (mkF m 363 #[.val (.long p0), .second, .val (.long p1), .second, .val (.long p2), .second, .val (.int p3), .val (.int (1 : Int32)), .val (.int xat), .val (.int (0 : Int32)), .val (.int xg), .val (.ref rb), .val (.ref rw), .val (.long vn0), .second, .val (.long (1 : Int64)), .second, .val (.long (1 : Int64)), .second, .val (.double d), .second, .val (.double (4616189618054758400 : UInt64)), .second] [(.long ((vn0 * (1 : Int64)) * (1 : Int64))), (.double (FP.dmul d (4616189618054758400 : UInt64)))]))
        have hp : (((vn0 * (1 : Int64)) * (1 : Int64))).toInt = G0 := by rw [Int64.mul_one, Int64.mul_one]; exact hN0
        have hl := own_l2d (a := ((vn0 * (1 : Int64)) * (1 : Int64))) (by rw [hp]; exact Nat.le_of_lt (by omega))
        rw [hp] at hl
        refine own_Go.st (fun _ kt => XS.l2dS X30.here hx rfl (hb hby at_363) rfl rfl kt) ?_
        show own_Go p e below _ (T30.setTop (mkF m 364 #[.val (.long p0), .second, .val (.long p1), .second, .val (.long p2), .second, .val (.int p3), .val (.int (1 : Int32)), .val (.int xat), .val (.int (0 : Int32)), .val (.int xg), .val (.ref rb), .val (.ref rw), .val (.long vn0), .second, .val (.long (1 : Int64)), .second, .val (.long (1 : Int64)), .second, .val (.double d), .second, .val (.double (4616189618054758400 : UInt64)), .second] [(.double (FP.l2d ((vn0 * (1 : Int64)) * (1 : Int64)))), (.double (FP.dmul d (4616189618054758400 : UInt64)))]))
        have heq : G0 * 4 * ((2 ^ 1072 : Nat) : Int) = G0 * ((2 ^ 1074 : Nat) : Int) := own_sc1 _
        rw [heq] at hm
        refine own_Go.st (fun _ kt => XS.dcmpS X30.here hx rfl (hb hby at_364) rfl (own_deq hm hl _) kt) ?_
        show own_Go p e below _ (T30.setTop (mkF m 365 #[.val (.long p0), .second, .val (.long p1), .second, .val (.long p2), .second, .val (.int p3), .val (.int (1 : Int32)), .val (.int xat), .val (.int (0 : Int32)), .val (.int xg), .val (.ref rb), .val (.ref rw), .val (.long vn0), .second, .val (.long (1 : Int64)), .second, .val (.long (1 : Int64)), .second, .val (.double d), .second, .val (.double (4616189618054758400 : UInt64)), .second] [(.int (0 : Int32))]))
        refine own_Go.st (fun _ kt => XS.ifNo X30.here hx rfl (hb hby at_365) rfl ((if0 _ _).trans (teq rfl).2) kt) ?_
        show own_Go p e below _ (T30.setTop (mkF m 368 #[.val (.long p0), .second, .val (.long p1), .second, .val (.long p2), .second, .val (.int p3), .val (.int (1 : Int32)), .val (.int xat), .val (.int (0 : Int32)), .val (.int xg), .val (.ref rb), .val (.ref rw), .val (.long vn0), .second, .val (.long (1 : Int64)), .second, .val (.long (1 : Int64)), .second, .val (.double d), .second, .val (.double (4616189618054758400 : UInt64)), .second] []))
        refine own_Go.st (fun _ kt => XS.iconst X30.here hx rfl (hb hby at_368) kt) ?_
        show own_Go p e below _ (T30.setTop (mkF m 369 #[.val (.long p0), .second, .val (.long p1), .second, .val (.long p2), .second, .val (.int p3), .val (.int (1 : Int32)), .val (.int xat), .val (.int (0 : Int32)), .val (.int xg), .val (.ref rb), .val (.ref rw), .val (.long vn0), .second, .val (.long (1 : Int64)), .second, .val (.long (1 : Int64)), .second, .val (.double d), .second, .val (.double (4616189618054758400 : UInt64)), .second] [(.int (1 : Int32))]))
        refine own_Go.st (fun _ kt => XS.goto X30.here hx rfl (pc0 := 369) (pc' := 373) rfl (hb hby at_369) (by decide) (by decide) kt) ?_
        show own_Go p e below _ (T30.setTop (mkF m 373 #[.val (.long p0), .second, .val (.long p1), .second, .val (.long p2), .second, .val (.int p3), .val (.int (1 : Int32)), .val (.int xat), .val (.int (0 : Int32)), .val (.int xg), .val (.ref rb), .val (.ref rw), .val (.long vn0), .second, .val (.long (1 : Int64)), .second, .val (.long (1 : Int64)), .second, .val (.double d), .second, .val (.double (4616189618054758400 : UInt64)), .second] [(.int (1 : Int32))]))
        exact own_retZ X30 hx Bd.notSynchronized Bd.returns (Or.inr rfl) (hb hby at_373) (by decide) (by decide) ⟨rfl, N30⟩
      · show own_Go p e below _ (T22.setTop (mkF m 128 #[.val (.long p0), .second, .val (.long p1), .second, .val (.long p2), .second, .val (.int p3), .val (.int (1 : Int32)), .val (.int xat), .val (.int (1 : Int32)), .val (.int xg), .val (.ref rb), .unset, .unset, .unset, .unset, .unset, .unset, .unset, .unset, .unset, .unset, .unset] [(.int (1 : Int32)), (.int (1 : Int32))]))
        obtain ⟨ig, hig, lig⟩ := own_ax ((p3.toUInt32 >>> ((5 : Int32) &&& 31).toUInt32).toInt32) 1 1 (by decide) (by decide)
        rw [hxg] at hig
        refine own_Go.st (fun _ kt => XS.icmpNo X22.here hx rfl (hb hby at_128) rfl (teq rfl).2 kt) ?_
        show own_Go p e below _ (T22.setTop (mkF m 131 #[.val (.long p0), .second, .val (.long p1), .second, .val (.long p2), .second, .val (.int p3), .val (.int (1 : Int32)), .val (.int xat), .val (.int (1 : Int32)), .val (.int xg), .val (.ref rb), .unset, .unset, .unset, .unset, .unset, .unset, .unset, .unset, .unset, .unset, .unset] []))
        refine own_Go.st (fun _ kt => XS.iconst X22.here hx rfl (hb hby at_131) kt) ?_
        show own_Go p e below _ (T22.setTop (mkF m 132 #[.val (.long p0), .second, .val (.long p1), .second, .val (.long p2), .second, .val (.int p3), .val (.int (1 : Int32)), .val (.int xat), .val (.int (1 : Int32)), .val (.int xg), .val (.ref rb), .unset, .unset, .unset, .unset, .unset, .unset, .unset, .unset, .unset, .unset, .unset] [(.int (1 : Int32))]))
        obtain ⟨T31, h31, k31, X31, e31, E31, A31, st31⟩ := newP X22 hx hZ (hw _ (List.mem_of_getElem? (i := 0) rfl)) e22 (g := (mkF m 132 #[.val (.long p0), .second, .val (.long p1), .second, .val (.long p2), .second, .val (.int p3), .val (.int (1 : Int32)), .val (.int xat), .val (.int (1 : Int32)), .val (.int xg), .val (.ref rb), .unset, .unset, .unset, .unset, .unset, .unset, .unset, .unset, .unset, .unset, .unset] [(.int (1 : Int32))])) rfl (hb hby at_132) rfl (by decide) (cap := 1) (by decide) (by decide) (by decide) (by decide)
        obtain ⟨rw, g31⟩ : ∃ z, z = Array.size h22 := ⟨_, rfl⟩
        rw [← g31] at A31 st31
        refine own_Go.st st31 ?_
        have ne_rb_rw : rb ≠ rw := Nat.ne_of_lt (Nat.lt_of_lt_of_le (ab).lt (Nat.le_of_eq g31.symm))
        have n0_rw : n0 ≤ rw := Nat.le_trans zz23 (Nat.le_of_eq g31.symm)
        have zz32 : n0 ≤ Array.size h31 := Nat.le_trans zz23 E31.1
        show own_Go p e below _ (T31.setTop (mkF m 134 #[.val (.long p0), .second, .val (.long p1), .second, .val (.long p2), .second, .val (.int p3), .val (.int (1 : Int32)), .val (.int xat), .val (.int (1 : Int32)), .val (.int xg), .val (.ref rb), .unset, .unset, .unset, .unset, .unset, .unset, .unset, .unset, .unset, .unset, .unset] [(.ref rw)]))
        obtain ⟨fw, aw⟩ : ∃ fw, own_Ar Z h31 rw .double 1 fw := ⟨_, own_Ar.new A31 (by decide)⟩
        refine own_Go.st (fun _ kt => XS.goto X31.here hx rfl (pc0 := 134) (pc' := 152) rfl (hb hby at_134) (by decide) (by decide) kt) ?_
        show own_Go p e below _ (T31.setTop (mkF m 152 #[.val (.long p0), .second, .val (.long p1), .second, .val (.long p2), .second, .val (.int p3), .val (.int (1 : Int32)), .val (.int xat), .val (.int (1 : Int32)), .val (.int xg), .val (.ref rb), .unset, .unset, .unset, .unset, .unset, .unset, .unset, .unset, .unset, .unset, .unset] [(.ref rw)]))
        refine own_Go.st (fun _ kt => XS.astore X31.here hx rfl (hb hby at_152) rfl rfl (l' := #[.val (.long p0), .second, .val (.long p1), .second, .val (.long p2), .second, .val (.int p3), .val (.int (1 : Int32)), .val (.int xat), .val (.int (1 : Int32)), .val (.int xg), .val (.ref rb), .val (.ref rw), .unset, .unset, .unset, .unset, .unset, .unset, .unset, .unset, .unset, .unset]) rfl kt) ?_
        show own_Go p e below _ (T31.setTop (mkF m 154 #[.val (.long p0), .second, .val (.long p1), .second, .val (.long p2), .second, .val (.int p3), .val (.int (1 : Int32)), .val (.int xat), .val (.int (1 : Int32)), .val (.int xg), .val (.ref rb), .val (.ref rw), .unset, .unset, .unset, .unset, .unset, .unset, .unset, .unset, .unset, .unset] []))
        refine own_Go.st (fun _ kt => XS.lloadN X31.here hx rfl (hb hby at_154) rfl kt) ?_
        show own_Go p e below _ (T31.setTop (mkF m 155 #[.val (.long p0), .second, .val (.long p1), .second, .val (.long p2), .second, .val (.int p3), .val (.int (1 : Int32)), .val (.int xat), .val (.int (1 : Int32)), .val (.int xg), .val (.ref rb), .val (.ref rw), .unset, .unset, .unset, .unset, .unset, .unset, .unset, .unset, .unset, .unset] [(.long p0)]))
        refine own_Go.st (fun _ kt => XS.iload X31.here hx rfl (hb hby at_155) rfl kt) ?_
        show own_Go p e below _ (T31.setTop (mkF m 157 #[.val (.long p0), .second, .val (.long p1), .second, .val (.long p2), .second, .val (.int p3), .val (.int (1 : Int32)), .val (.int xat), .val (.int (1 : Int32)), .val (.int xg), .val (.ref rb), .val (.ref rw), .unset, .unset, .unset, .unset, .unset, .unset, .unset, .unset, .unset, .unset] [(.int (1 : Int32)), (.long p0)]))
        refine own_Go.st (fun _ kt => XS.iload X31.here hx rfl (hb hby at_157) rfl kt) ?_
        show own_Go p e below _ (T31.setTop (mkF m 159 #[.val (.long p0), .second, .val (.long p1), .second, .val (.long p2), .second, .val (.int p3), .val (.int (1 : Int32)), .val (.int xat), .val (.int (1 : Int32)), .val (.int xg), .val (.ref rb), .val (.ref rw), .unset, .unset, .unset, .unset, .unset, .unset, .unset, .unset, .unset, .unset] [(.int xg), (.int (1 : Int32)), (.long p0)]))
        refine own_Go.st (fun _ kt => XS.iconst X31.here hx rfl (hb hby at_159) kt) ?_
        show own_Go p e below _ (T31.setTop (mkF m 160 #[.val (.long p0), .second, .val (.long p1), .second, .val (.long p2), .second, .val (.int p3), .val (.int (1 : Int32)), .val (.int xat), .val (.int (1 : Int32)), .val (.int xg), .val (.ref rb), .val (.ref rw), .unset, .unset, .unset, .unset, .unset, .unset, .unset, .unset, .unset, .unset] [(.int (0 : Int32)), (.int xg), (.int (1 : Int32)), (.long p0)]))
        have hg : xg = 0 := by
          have : ig = 0 := by omega
          rcases this with rfl
          · exact own_lit xg 0 hig (by decide)
        subst hg
        show own_Go p e below _ (T31.setTop (mkF m 160 #[.val (.long p0), .second, .val (.long p1), .second, .val (.long p2), .second, .val (.int p3), .val (.int (1 : Int32)), .val (.int xat), .val (.int (1 : Int32)), .val (.int (0 : Int32)), .val (.ref rb), .val (.ref rw), .unset, .unset, .unset, .unset, .unset, .unset, .unset, .unset, .unset, .unset] [(.int (0 : Int32)), (.int (0 : Int32)), (.int (1 : Int32)), (.long p0)]))
        obtain ⟨_, _, ⟨T33, L33, k33, n33⟩, -, X33, ⟨Lc33, hQ33, l33, y33, z33⟩, st33⟩ := Jvm.LawKit.callS X31 hx (y := (⟨"com/example/thicket/thicket/PackedLevelGrownVolumePinLaw", "mode", "(ZII)I"⟩ : MethodName)) hown (mvT hZ (hw _ (List.mem_of_getElem? (i := 11) rfl))) (mvT hZ (hw _ (List.mem_of_getElem? (i := 12) rfl))) (mvT hZ (hw _ (List.mem_of_getElem? (i := 13) rfl))) (mvT hZ (hw _ (List.mem_of_getElem? (i := 14) rfl))) (by decide) (backOf (W := 2) (own_mode l Z a0 hw [] (1 : Int32) (0 : Int32) (0 : Int32) h31 n0 zz32 ) hZ (hw _ (List.mem_of_getElem? (i := 14) rfl)) (hw _ (List.mem_of_getElem? (i := 13) rfl)) (by decide) (by decide)) (g := (mkF m 160 #[.val (.long p0), .second, .val (.long p1), .second, .val (.long p2), .second, .val (.int p3), .val (.int (1 : Int32)), .val (.int xat), .val (.int (1 : Int32)), .val (.int (0 : Int32)), .val (.ref rb), .val (.ref rw), .unset, .unset, .unset, .unset, .unset, .unset, .unset, .unset, .unset, .unset] [(.int (0 : Int32)), (.int (0 : Int32)), (.int (1 : Int32)), (.long p0)])) rfl (by rw [hml]; rfl) (argsL := [(.int (1 : Int32)), (.int (0 : Int32)), (.int (0 : Int32))]) (rest := [(.long p0)]) (lenOf own_pd1 rfl) rfl (by show 2 * 0 + _ ≤ _; exact Nat.le_of_eq rfl) (hb hby at_160) (fun _ _ => ⟨rfl, e31, (by decide : 2 + 0 ≤ _), (by decide : 11 + 0 ≤ _)⟩)
        dsimp only [Pt.U, Pt.locs, Pt.cells, Pt.slots] at X33 l33 y33 z33 st33 hQ33
        subst l33 y33 z33
        obtain ⟨rfl, N33q, hh33⟩ := hQ33
        have N33 := Fr.app N22 N33q
        refine own_Go.st (fun _ kt => st33 _ kt) ?_
        show own_Go p e below _ (T33.setTop (mkF m 163 #[.val (.long p0), .second, .val (.long p1), .second, .val (.long p2), .second, .val (.int p3), .val (.int (1 : Int32)), .val (.int xat), .val (.int (1 : Int32)), .val (.int (0 : Int32)), .val (.ref rb), .val (.ref rw), .unset, .unset, .unset, .unset, .unset, .unset, .unset, .unset, .unset, .unset] [(.int (if (1 : Int32) = 0 then (0 : Int32) else if (0 : Int32) = (0 : Int32) then 1 else 2)), (.long p0)]))
        rw [show (if (1 : Int32) = 0 then (0 : Int32) else if (0 : Int32) = (0 : Int32) then 1 else 2) = (1 : Int32) from (by decide)]
        show own_Go p e below _ (T33.setTop (mkF m 163 #[.val (.long p0), .second, .val (.long p1), .second, .val (.long p2), .second, .val (.int p3), .val (.int (1 : Int32)), .val (.int xat), .val (.int (1 : Int32)), .val (.int (0 : Int32)), .val (.ref rb), .val (.ref rw), .unset, .unset, .unset, .unset, .unset, .unset, .unset, .unset, .unset, .unset] [(.int (1 : Int32)), (.long p0)]))
        refine own_Go.st (fun _ kt => XS.aload X33.here hx rfl (hb hby at_163) rfl rfl kt) ?_
        show own_Go p e below _ (T33.setTop (mkF m 165 #[.val (.long p0), .second, .val (.long p1), .second, .val (.long p2), .second, .val (.int p3), .val (.int (1 : Int32)), .val (.int xat), .val (.int (1 : Int32)), .val (.int (0 : Int32)), .val (.ref rb), .val (.ref rw), .unset, .unset, .unset, .unset, .unset, .unset, .unset, .unset, .unset, .unset] [(.ref rb), (.int (1 : Int32)), (.long p0)]))
        refine own_Go.st (fun _ kt => XS.iload X33.here hx rfl (hb hby at_165) rfl kt) ?_
        show own_Go p e below _ (T33.setTop (mkF m 167 #[.val (.long p0), .second, .val (.long p1), .second, .val (.long p2), .second, .val (.int p3), .val (.int (1 : Int32)), .val (.int xat), .val (.int (1 : Int32)), .val (.int (0 : Int32)), .val (.ref rb), .val (.ref rw), .unset, .unset, .unset, .unset, .unset, .unset, .unset, .unset, .unset, .unset] [(.int xat), (.ref rb), (.int (1 : Int32)), (.long p0)]))
        refine own_Go.st (fun _ kt => XS.iload X33.here hx rfl (hb hby at_167) rfl kt) ?_
        show own_Go p e below _ (T33.setTop (mkF m 169 #[.val (.long p0), .second, .val (.long p1), .second, .val (.long p2), .second, .val (.int p3), .val (.int (1 : Int32)), .val (.int xat), .val (.int (1 : Int32)), .val (.int (0 : Int32)), .val (.ref rb), .val (.ref rw), .unset, .unset, .unset, .unset, .unset, .unset, .unset, .unset, .unset, .unset] [(.int xat), (.int xat), (.ref rb), (.int (1 : Int32)), (.long p0)]))
        refine own_Go.st (fun _ kt => XS.iload X33.here hx rfl (hb hby at_169) rfl kt) ?_
        show own_Go p e below _ (T33.setTop (mkF m 171 #[.val (.long p0), .second, .val (.long p1), .second, .val (.long p2), .second, .val (.int p3), .val (.int (1 : Int32)), .val (.int xat), .val (.int (1 : Int32)), .val (.int (0 : Int32)), .val (.ref rb), .val (.ref rw), .unset, .unset, .unset, .unset, .unset, .unset, .unset, .unset, .unset, .unset] [(.int (1 : Int32)), (.int xat), (.int xat), (.ref rb), (.int (1 : Int32)), (.long p0)]))
        refine own_Go.st (fun _ kt => XS.iadd X33.here hx rfl (hb hby at_171) rfl kt) ?_
        show own_Go p e below _ (T33.setTop (mkF m 172 #[.val (.long p0), .second, .val (.long p1), .second, .val (.long p2), .second, .val (.int p3), .val (.int (1 : Int32)), .val (.int xat), .val (.int (1 : Int32)), .val (.int (0 : Int32)), .val (.ref rb), .val (.ref rw), .unset, .unset, .unset, .unset, .unset, .unset, .unset, .unset, .unset, .unset] [(.int (xat + (1 : Int32))), (.int xat), (.ref rb), (.int (1 : Int32)), (.long p0)]))
        refine own_Go.st (fun _ kt => XS.aload X33.here hx rfl (hb hby at_172) rfl rfl kt) ?_
        show own_Go p e below _ (T33.setTop (mkF m 174 #[.val (.long p0), .second, .val (.long p1), .second, .val (.long p2), .second, .val (.int p3), .val (.int (1 : Int32)), .val (.int xat), .val (.int (1 : Int32)), .val (.int (0 : Int32)), .val (.ref rb), .val (.ref rw), .unset, .unset, .unset, .unset, .unset, .unset, .unset, .unset, .unset, .unset] [(.ref rw), (.int (xat + (1 : Int32))), (.int xat), (.ref rb), (.int (1 : Int32)), (.long p0)]))
        refine own_Go.st (fun _ kt => XS.iconst X33.here hx rfl (hb hby at_174) kt) ?_
        show own_Go p e below _ (T33.setTop (mkF m 175 #[.val (.long p0), .second, .val (.long p1), .second, .val (.long p2), .second, .val (.int p3), .val (.int (1 : Int32)), .val (.int xat), .val (.int (1 : Int32)), .val (.int (0 : Int32)), .val (.ref rb), .val (.ref rw), .unset, .unset, .unset, .unset, .unset, .unset, .unset, .unset, .unset, .unset] [(.int (0 : Int32)), (.ref rw), (.int (xat + (1 : Int32))), (.int xat), (.ref rb), (.int (1 : Int32)), (.long p0)]))
        have f34 := (ab.ext E31)
        obtain ⟨_, _, ⟨T35, L35, k35, n35⟩, -, X35, ⟨Lc35, hQ35, l35, y35, z35⟩, st35⟩ := Jvm.LawKit.callS X33 hx (y := (⟨"com/example/thicket/thicket/PackedLevelGrownVolumePinLaw", "fill", "(JI[DII[DI)J"⟩ : MethodName)) hown (mvT hZ (hw _ (List.mem_of_getElem? (i := 15) rfl))) (mvT hZ (hw _ (List.mem_of_getElem? (i := 16) rfl))) (mvT hZ (hw _ (List.mem_of_getElem? (i := 13) rfl))) (mvT hZ (hw _ (List.mem_of_getElem? (i := 17) rfl))) (by decide) (backOf (W := 0) (own_fill l Z a0 hw [] p0 (1 : Int32) rb xat (xat + (1 : Int32)) rw (0 : Int32) ia (ia + 1) 0 1 fb fw h31 n0 zz32 f34 aw ne_rb_rw n0_rb n0_rw hat (own_addn hat (e := 1) (by decide) (by omega) (by decide)) (by decide) (by omega) (by omega) (by decide) (by decide)) hZ (hw _ (List.mem_of_getElem? (i := 17) rfl)) (hw _ (List.mem_of_getElem? (i := 13) rfl)) (by decide) (by decide)) (g := (mkF m 175 #[.val (.long p0), .second, .val (.long p1), .second, .val (.long p2), .second, .val (.int p3), .val (.int (1 : Int32)), .val (.int xat), .val (.int (1 : Int32)), .val (.int (0 : Int32)), .val (.ref rb), .val (.ref rw), .unset, .unset, .unset, .unset, .unset, .unset, .unset, .unset, .unset, .unset] [(.int (0 : Int32)), (.ref rw), (.int (xat + (1 : Int32))), (.int xat), (.ref rb), (.int (1 : Int32)), (.long p0)])) rfl (by rw [hml]; rfl) (argsL := [(.long p0), (.int (1 : Int32)), (.ref rb), (.int xat), (.int (xat + (1 : Int32))), (.ref rw), (.int (0 : Int32))]) (rest := []) (lenOf own_pd2 rfl) rfl (by show 2 * 0 + _ ≤ _; exact Nat.le_of_eq rfl) (hb hby at_175) (fun _ _ => ⟨rfl, hh33, (by decide : 2 + 0 ≤ _), (by decide : 11 + 0 ≤ _)⟩)
        dsimp only [Pt.U, Pt.locs, Pt.cells, Pt.slots] at X35 l35 y35 z35 st35 hQ35
        subst l35 y35 z35
        obtain ⟨vn0, x0, y0, z0, G0, rfl, N35q, ex35, e235, e335, ab35, aw35, KF35⟩ := hQ35
        have N35 := Fr.app N33 N35q
        refine own_Go.st (fun _ kt => st35 _ kt) ?_
        have zz36 : n0 ≤ Array.size T35.heap := Nat.le_trans zz32 KF35.1
        show own_Go p e below _ (T35.setTop (mkF m 178 #[.val (.long p0), .second, .val (.long p1), .second, .val (.long p2), .second, .val (.int p3), .val (.int (1 : Int32)), .val (.int xat), .val (.int (1 : Int32)), .val (.int (0 : Int32)), .val (.ref rb), .val (.ref rw), .unset, .unset, .unset, .unset, .unset, .unset, .unset, .unset, .unset, .unset] [(.long vn0)]))
        generalize hfb1 : (fun j => if j = (ia + 1) then Value.double y0 else if j = ia then Value.double x0 else fb j) = fb1 at ab35
        generalize hfw1 : (fun j => if j = 0 then Value.double z0 else fw j) = fw1 at aw35
        have hN0 : vn0.toInt = G0 := e335 (by decide)
        refine own_Go.st (fun _ kt => XS.lstore X35.here hx rfl (hb hby at_178) rfl (l' := #[.val (.long p0), .second, .val (.long p1), .second, .val (.long p2), .second, .val (.int p3), .val (.int (1 : Int32)), .val (.int xat), .val (.int (1 : Int32)), .val (.int (0 : Int32)), .val (.ref rb), .val (.ref rw), .val (.long vn0), .second, .unset, .unset, .unset, .unset, .unset, .unset, .unset, .unset]) rfl kt) ?_
        show own_Go p e below _ (T35.setTop (mkF m 180 #[.val (.long p0), .second, .val (.long p1), .second, .val (.long p2), .second, .val (.int p3), .val (.int (1 : Int32)), .val (.int xat), .val (.int (1 : Int32)), .val (.int (0 : Int32)), .val (.ref rb), .val (.ref rw), .val (.long vn0), .second, .unset, .unset, .unset, .unset, .unset, .unset, .unset, .unset] []))
        refine own_Go.st (fun _ kt => XS.iload X35.here hx rfl (hb hby at_180) rfl kt) ?_
        show own_Go p e below _ (T35.setTop (mkF m 182 #[.val (.long p0), .second, .val (.long p1), .second, .val (.long p2), .second, .val (.int p3), .val (.int (1 : Int32)), .val (.int xat), .val (.int (1 : Int32)), .val (.int (0 : Int32)), .val (.ref rb), .val (.ref rw), .val (.long vn0), .second, .unset, .unset, .unset, .unset, .unset, .unset, .unset, .unset] [(.int (1 : Int32))]))
        refine own_Go.st (fun _ kt => XS.iconst X35.here hx rfl (hb hby at_182) kt) ?_
        show own_Go p e below _ (T35.setTop (mkF m 183 #[.val (.long p0), .second, .val (.long p1), .second, .val (.long p2), .second, .val (.int p3), .val (.int (1 : Int32)), .val (.int xat), .val (.int (1 : Int32)), .val (.int (0 : Int32)), .val (.ref rb), .val (.ref rw), .val (.long vn0), .second, .unset, .unset, .unset, .unset, .unset, .unset, .unset, .unset] [(.int (1 : Int32)), (.int (1 : Int32))]))
        refine own_Go.st (fun _ kt => XS.icmpYes X35.here hx rfl (pc0 := 183) (pc' := 217) rfl (hb hby at_183) rfl (flt (by decide)).2.2.2 (by decide) (by decide) kt) ?_
        show own_Go p e below _ (T35.setTop (mkF m 217 #[.val (.long p0), .second, .val (.long p1), .second, .val (.long p2), .second, .val (.int p3), .val (.int (1 : Int32)), .val (.int xat), .val (.int (1 : Int32)), .val (.int (0 : Int32)), .val (.ref rb), .val (.ref rw), .val (.long vn0), .second, .unset, .unset, .unset, .unset, .unset, .unset, .unset, .unset] []))
        refine own_Go.st (fun _ kt => XS.lconst X35.here hx rfl (hb hby at_217) kt) ?_
        show own_Go p e below _ (T35.setTop (mkF m 218 #[.val (.long p0), .second, .val (.long p1), .second, .val (.long p2), .second, .val (.int p3), .val (.int (1 : Int32)), .val (.int xat), .val (.int (1 : Int32)), .val (.int (0 : Int32)), .val (.ref rb), .val (.ref rw), .val (.long vn0), .second, .unset, .unset, .unset, .unset, .unset, .unset, .unset, .unset] [(.long (1 : Int64))]))
        refine own_Go.st (fun _ kt => XS.lstore X35.here hx rfl (hb hby at_218) rfl (l' := #[.val (.long p0), .second, .val (.long p1), .second, .val (.long p2), .second, .val (.int p3), .val (.int (1 : Int32)), .val (.int xat), .val (.int (1 : Int32)), .val (.int (0 : Int32)), .val (.ref rb), .val (.ref rw), .val (.long vn0), .second, .val (.long (1 : Int64)), .second, .unset, .unset, .unset, .unset, .unset, .unset]) rfl kt) ?_
        show own_Go p e below _ (T35.setTop (mkF m 220 #[.val (.long p0), .second, .val (.long p1), .second, .val (.long p2), .second, .val (.int p3), .val (.int (1 : Int32)), .val (.int xat), .val (.int (1 : Int32)), .val (.int (0 : Int32)), .val (.ref rb), .val (.ref rw), .val (.long vn0), .second, .val (.long (1 : Int64)), .second, .unset, .unset, .unset, .unset, .unset, .unset] []))
        refine own_Go.st (fun _ kt => XS.iload X35.here hx rfl (hb hby at_220) rfl kt) ?_
        show own_Go p e below _ (T35.setTop (mkF m 222 #[.val (.long p0), .second, .val (.long p1), .second, .val (.long p2), .second, .val (.int p3), .val (.int (1 : Int32)), .val (.int xat), .val (.int (1 : Int32)), .val (.int (0 : Int32)), .val (.ref rb), .val (.ref rw), .val (.long vn0), .second, .val (.long (1 : Int64)), .second, .unset, .unset, .unset, .unset, .unset, .unset] [(.int (1 : Int32))]))
        refine own_Go.st (fun _ kt => XS.iconst X35.here hx rfl (hb hby at_222) kt) ?_
        show own_Go p e below _ (T35.setTop (mkF m 223 #[.val (.long p0), .second, .val (.long p1), .second, .val (.long p2), .second, .val (.int p3), .val (.int (1 : Int32)), .val (.int xat), .val (.int (1 : Int32)), .val (.int (0 : Int32)), .val (.ref rb), .val (.ref rw), .val (.long vn0), .second, .val (.long (1 : Int64)), .second, .unset, .unset, .unset, .unset, .unset, .unset] [(.int (2 : Int32)), (.int (1 : Int32))]))
        refine own_Go.st (fun _ kt => XS.icmpYes X35.here hx rfl (pc0 := 223) (pc' := 258) rfl (hb hby at_223) rfl (flt (by decide)).2.2.2 (by decide) (by decide) kt) ?_
        show own_Go p e below _ (T35.setTop (mkF m 258 #[.val (.long p0), .second, .val (.long p1), .second, .val (.long p2), .second, .val (.int p3), .val (.int (1 : Int32)), .val (.int xat), .val (.int (1 : Int32)), .val (.int (0 : Int32)), .val (.ref rb), .val (.ref rw), .val (.long vn0), .second, .val (.long (1 : Int64)), .second, .unset, .unset, .unset, .unset, .unset, .unset] []))
        refine own_Go.st (fun _ kt => XS.lconst X35.here hx rfl (hb hby at_258) kt) ?_
        show own_Go p e below _ (T35.setTop (mkF m 259 #[.val (.long p0), .second, .val (.long p1), .second, .val (.long p2), .second, .val (.int p3), .val (.int (1 : Int32)), .val (.int xat), .val (.int (1 : Int32)), .val (.int (0 : Int32)), .val (.ref rb), .val (.ref rw), .val (.long vn0), .second, .val (.long (1 : Int64)), .second, .unset, .unset, .unset, .unset, .unset, .unset] [(.long (1 : Int64))]))
        refine own_Go.st (fun _ kt => XS.lstore X35.here hx rfl (hb hby at_259) rfl (l' := #[.val (.long p0), .second, .val (.long p1), .second, .val (.long p2), .second, .val (.int p3), .val (.int (1 : Int32)), .val (.int xat), .val (.int (1 : Int32)), .val (.int (0 : Int32)), .val (.ref rb), .val (.ref rw), .val (.long vn0), .second, .val (.long (1 : Int64)), .second, .val (.long (1 : Int64)), .second, .unset, .unset, .unset, .unset]) rfl kt) ?_
        show own_Go p e below _ (T35.setTop (mkF m 261 #[.val (.long p0), .second, .val (.long p1), .second, .val (.long p2), .second, .val (.int p3), .val (.int (1 : Int32)), .val (.int xat), .val (.int (1 : Int32)), .val (.int (0 : Int32)), .val (.ref rb), .val (.ref rw), .val (.long vn0), .second, .val (.long (1 : Int64)), .second, .val (.long (1 : Int64)), .second, .unset, .unset, .unset, .unset] []))
        refine own_Go.st (fun _ kt => XS.aload X35.here hx rfl (hb hby at_261) rfl rfl kt) ?_
        show own_Go p e below _ (T35.setTop (mkF m 263 #[.val (.long p0), .second, .val (.long p1), .second, .val (.long p2), .second, .val (.int p3), .val (.int (1 : Int32)), .val (.int xat), .val (.int (1 : Int32)), .val (.int (0 : Int32)), .val (.ref rb), .val (.ref rw), .val (.long vn0), .second, .val (.long (1 : Int64)), .second, .val (.long (1 : Int64)), .second, .unset, .unset, .unset, .unset] [(.ref rb)]))
        refine own_Go.st (fun _ kt => XS.iload X35.here hx rfl (hb hby at_263) rfl kt) ?_
        show own_Go p e below _ (T35.setTop (mkF m 265 #[.val (.long p0), .second, .val (.long p1), .second, .val (.long p2), .second, .val (.int p3), .val (.int (1 : Int32)), .val (.int xat), .val (.int (1 : Int32)), .val (.int (0 : Int32)), .val (.ref rb), .val (.ref rw), .val (.long vn0), .second, .val (.long (1 : Int64)), .second, .val (.long (1 : Int64)), .second, .unset, .unset, .unset, .unset] [(.int xat), (.ref rb)]))
        refine own_Go.st (fun _ kt => XS.aload X35.here hx rfl (hb hby at_265) rfl rfl kt) ?_
        show own_Go p e below _ (T35.setTop (mkF m 267 #[.val (.long p0), .second, .val (.long p1), .second, .val (.long p2), .second, .val (.int p3), .val (.int (1 : Int32)), .val (.int xat), .val (.int (1 : Int32)), .val (.int (0 : Int32)), .val (.ref rb), .val (.ref rw), .val (.long vn0), .second, .val (.long (1 : Int64)), .second, .val (.long (1 : Int64)), .second, .unset, .unset, .unset, .unset] [(.ref rw), (.int xat), (.ref rb)]))
        have fx0 : fb1 (ia + 0) = .double x0 := by
          subst hfb1
          dsimp only
          repeat (first | rw [if_pos (by omega)] | rw [if_neg (by omega)])
        have fy0 : fb1 (ia + 1 + 0) = .double y0 := by
          subst hfb1
          dsimp only
          repeat (first | rw [if_pos (by omega)] | rw [if_neg (by omega)])
        have fz0 : fw1 0 = .double z0 := by
          subst hfw1
          rfl
        have bN0 := own_nb ex35
        obtain ⟨_, _, ⟨T37, L37, k37, n37⟩, -, X37, ⟨Lc37, hQ37, l37, y37, z37⟩, st37⟩ := Jvm.LawKit.callS X35 hx (y := (⟨"com/example/thicket/thicket/PackedLevel", "grownVolume", "([DI[D)D"⟩ : MethodName)) hown (mvT hZ (hw _ (List.mem_of_getElem? (i := 28) rfl))) (mvT hZ (hw _ (List.mem_of_getElem? (i := 29) rfl))) (mvT hZ (hw _ (List.mem_of_getElem? (i := 30) rfl))) (mvT hZ (hw _ (List.mem_of_getElem? (i := 31) rfl))) (by decide) (backOf (W := 0) (own_gv1 l Z a0 hw [] rb xat rw ia fb1 fw1 x0 y0 z0 G0 2081  T35.heap n0 zz36 ab35 aw35 hat la ex35 (by decide) fx0 fy0 fz0 ) hZ (hw _ (List.mem_of_getElem? (i := 31) rfl)) (hw _ (List.mem_of_getElem? (i := 30) rfl)) (by decide) (by decide)) (g := (mkF m 267 #[.val (.long p0), .second, .val (.long p1), .second, .val (.long p2), .second, .val (.int p3), .val (.int (1 : Int32)), .val (.int xat), .val (.int (1 : Int32)), .val (.int (0 : Int32)), .val (.ref rb), .val (.ref rw), .val (.long vn0), .second, .val (.long (1 : Int64)), .second, .val (.long (1 : Int64)), .second, .unset, .unset, .unset, .unset] [(.ref rw), (.int xat), (.ref rb)])) rfl (by rw [hml]; rfl) (argsL := [(.ref rb), (.int xat), (.ref rw)]) (rest := []) (lenOf own_pd3 rfl) rfl (by show 2 * 0 + _ ≤ _; exact Nat.le_of_eq rfl) (hb hby at_267) (fun _ _ => ⟨rfl, rfl, (by decide : 2 + 0 ≤ _), (by decide : 11 + 0 ≤ _)⟩)
        dsimp only [Pt.U, Pt.locs, Pt.cells, Pt.slots] at X37 l37 y37 z37 st37 hQ37
        subst l37 y37 z37
        obtain ⟨d, rfl, N37q, hv37, hh37⟩ := hQ37
        have N37 := Fr.app N35 N37q
        refine own_Go.st (fun _ kt => st37 _ kt) ?_
        show own_Go p e below _ (T37.setTop (mkF m 270 #[.val (.long p0), .second, .val (.long p1), .second, .val (.long p2), .second, .val (.int p3), .val (.int (1 : Int32)), .val (.int xat), .val (.int (1 : Int32)), .val (.int (0 : Int32)), .val (.ref rb), .val (.ref rw), .val (.long vn0), .second, .val (.long (1 : Int64)), .second, .val (.long (1 : Int64)), .second, .unset, .unset, .unset, .unset] [(.double d)]))
        refine own_Go.st (fun _ kt => XS.dstore X37.here hx rfl (hb hby at_270) rfl (l' := #[.val (.long p0), .second, .val (.long p1), .second, .val (.long p2), .second, .val (.int p3), .val (.int (1 : Int32)), .val (.int xat), .val (.int (1 : Int32)), .val (.int (0 : Int32)), .val (.ref rb), .val (.ref rw), .val (.long vn0), .second, .val (.long (1 : Int64)), .second, .val (.long (1 : Int64)), .second, .val (.double d), .second, .unset, .unset]) rfl kt) ?_
        show own_Go p e below _ (T37.setTop (mkF m 272 #[.val (.long p0), .second, .val (.long p1), .second, .val (.long p2), .second, .val (.int p3), .val (.int (1 : Int32)), .val (.int xat), .val (.int (1 : Int32)), .val (.int (0 : Int32)), .val (.ref rb), .val (.ref rw), .val (.long vn0), .second, .val (.long (1 : Int64)), .second, .val (.long (1 : Int64)), .second, .val (.double d), .second, .unset, .unset] []))
        refine own_Go.st (fun _ kt => XS.iload X37.here hx rfl (hb hby at_272) rfl kt) ?_
        show own_Go p e below _ (T37.setTop (mkF m 274 #[.val (.long p0), .second, .val (.long p1), .second, .val (.long p2), .second, .val (.int p3), .val (.int (1 : Int32)), .val (.int xat), .val (.int (1 : Int32)), .val (.int (0 : Int32)), .val (.ref rb), .val (.ref rw), .val (.long vn0), .second, .val (.long (1 : Int64)), .second, .val (.long (1 : Int64)), .second, .val (.double d), .second, .unset, .unset] [(.int (1 : Int32))]))
        refine own_Go.st (fun _ kt => XS.ifNo X37.here hx rfl (hb hby at_274) rfl ((if0 _ _).trans (feq (by decide)).1) kt) ?_
        show own_Go p e below _ (T37.setTop (mkF m 277 #[.val (.long p0), .second, .val (.long p1), .second, .val (.long p2), .second, .val (.int p3), .val (.int (1 : Int32)), .val (.int xat), .val (.int (1 : Int32)), .val (.int (0 : Int32)), .val (.ref rb), .val (.ref rw), .val (.long vn0), .second, .val (.long (1 : Int64)), .second, .val (.long (1 : Int64)), .second, .val (.double d), .second, .unset, .unset] []))
        refine own_Go.st (fun _ kt => XS.iload X37.here hx rfl (hb hby at_277) rfl kt) ?_
        show own_Go p e below _ (T37.setTop (mkF m 279 #[.val (.long p0), .second, .val (.long p1), .second, .val (.long p2), .second, .val (.int p3), .val (.int (1 : Int32)), .val (.int xat), .val (.int (1 : Int32)), .val (.int (0 : Int32)), .val (.ref rb), .val (.ref rw), .val (.long vn0), .second, .val (.long (1 : Int64)), .second, .val (.long (1 : Int64)), .second, .val (.double d), .second, .unset, .unset] [(.int (0 : Int32))]))
        refine own_Go.st (fun _ kt => XS.ifNo X37.here hx rfl (hb hby at_279) rfl ((if0 _ _).trans (teq rfl).2) kt) ?_
        show own_Go p e below _ (T37.setTop (mkF m 282 #[.val (.long p0), .second, .val (.long p1), .second, .val (.long p2), .second, .val (.int p3), .val (.int (1 : Int32)), .val (.int xat), .val (.int (1 : Int32)), .val (.int (0 : Int32)), .val (.ref rb), .val (.ref rw), .val (.long vn0), .second, .val (.long (1 : Int64)), .second, .val (.long (1 : Int64)), .second, .val (.double d), .second, .unset, .unset] []))
        refine own_Go.st (fun _ kt => XS.lload X37.here hx rfl (hb hby at_282) rfl kt) ?_
        show own_Go p e below _ (T37.setTop (mkF m 284 #[.val (.long p0), .second, .val (.long p1), .second, .val (.long p2), .second, .val (.int p3), .val (.int (1 : Int32)), .val (.int xat), .val (.int (1 : Int32)), .val (.int (0 : Int32)), .val (.ref rb), .val (.ref rw), .val (.long vn0), .second, .val (.long (1 : Int64)), .second, .val (.long (1 : Int64)), .second, .val (.double d), .second, .unset, .unset] [(.long vn0)]))
        refine own_Go.st (fun _ kt => XS.goto X37.here hx rfl (pc0 := 284) (pc' := 300) rfl (hb hby at_284) (by decide) (by decide) kt) ?_
        show own_Go p e below _ (T37.setTop (mkF m 300 #[.val (.long p0), .second, .val (.long p1), .second, .val (.long p2), .second, .val (.int p3), .val (.int (1 : Int32)), .val (.int xat), .val (.int (1 : Int32)), .val (.int (0 : Int32)), .val (.ref rb), .val (.ref rw), .val (.long vn0), .second, .val (.long (1 : Int64)), .second, .val (.long (1 : Int64)), .second, .val (.double d), .second, .unset, .unset] [(.long vn0)]))
        refine own_Go.st (fun _ kt => XS.lstore X37.here hx rfl (hb hby at_300) rfl (l' := #[.val (.long p0), .second, .val (.long p1), .second, .val (.long p2), .second, .val (.int p3), .val (.int (1 : Int32)), .val (.int xat), .val (.int (1 : Int32)), .val (.int (0 : Int32)), .val (.ref rb), .val (.ref rw), .val (.long vn0), .second, .val (.long (1 : Int64)), .second, .val (.long (1 : Int64)), .second, .val (.double d), .second, .val (.long vn0), .second]) rfl kt) ?_
        show own_Go p e below _ (T37.setTop (mkF m 302 #[.val (.long p0), .second, .val (.long p1), .second, .val (.long p2), .second, .val (.int p3), .val (.int (1 : Int32)), .val (.int xat), .val (.int (1 : Int32)), .val (.int (0 : Int32)), .val (.ref rb), .val (.ref rw), .val (.long vn0), .second, .val (.long (1 : Int64)), .second, .val (.long (1 : Int64)), .second, .val (.double d), .second, .val (.long vn0), .second] []))
        refine own_Go.st (fun _ kt => XS.dload X37.here hx rfl (hb hby at_302) rfl kt) ?_
        show own_Go p e below _ (T37.setTop (mkF m 304 #[.val (.long p0), .second, .val (.long p1), .second, .val (.long p2), .second, .val (.int p3), .val (.int (1 : Int32)), .val (.int xat), .val (.int (1 : Int32)), .val (.int (0 : Int32)), .val (.ref rb), .val (.ref rw), .val (.long vn0), .second, .val (.long (1 : Int64)), .second, .val (.long (1 : Int64)), .second, .val (.double d), .second, .val (.long vn0), .second] [(.double d)]))
        refine own_Go.st (fun _ kt => XS.lload X37.here hx rfl (hb hby at_304) rfl kt) ?_
        show own_Go p e below _ (T37.setTop (mkF m 306 #[.val (.long p0), .second, .val (.long p1), .second, .val (.long p2), .second, .val (.int p3), .val (.int (1 : Int32)), .val (.int xat), .val (.int (1 : Int32)), .val (.int (0 : Int32)), .val (.ref rb), .val (.ref rw), .val (.long vn0), .second, .val (.long (1 : Int64)), .second, .val (.long (1 : Int64)), .second, .val (.double d), .second, .val (.long vn0), .second] [(.long vn0), (.double d)]))
        refine own_Go.st (fun _ kt => XS.l2dS X37.here hx rfl (hb hby at_306) rfl rfl kt) ?_
        show own_Go p e below _ (T37.setTop (mkF m 307 #[.val (.long p0), .second, .val (.long p1), .second, .val (.long p2), .second, .val (.int p3), .val (.int (1 : Int32)), .val (.int xat), .val (.int (1 : Int32)), .val (.int (0 : Int32)), .val (.ref rb), .val (.ref rw), .val (.long vn0), .second, .val (.long (1 : Int64)), .second, .val (.long (1 : Int64)), .second, .val (.double d), .second, .val (.long vn0), .second] [(.double (FP.l2d vn0)), (.double d)]))
        refine own_Go.st (fun _ kt => X37.ldc2DoubleC hx hown (mvT hZ (hw _ (List.mem_of_getElem? (i := 35) rfl))) (g := (mkF m 307 #[.val (.long p0), .second, .val (.long p1), .second, .val (.long p2), .second, .val (.int p3), .val (.int (1 : Int32)), .val (.int xat), .val (.int (1 : Int32)), .val (.int (0 : Int32)), .val (.ref rb), .val (.ref rw), .val (.long vn0), .second, .val (.long (1 : Int64)), .second, .val (.long (1 : Int64)), .second, .val (.double d), .second, .val (.long vn0), .second] [(.double (FP.l2d vn0)), (.double d)])) rfl (hb hby at_307) _ kt) ?_
        show own_Go p e below _ (T37.setTop (mkF m 310 #[.val (.long p0), .second, .val (.long p1), .second, .val (.long p2), .second, .val (.int p3), .val (.int (1 : Int32)), .val (.int xat), .val (.int (1 : Int32)), .val (.int (0 : Int32)), .val (.ref rb), .val (.ref rw), .val (.long vn0), .second, .val (.long (1 : Int64)), .second, .val (.long (1 : Int64)), .second, .val (.double d), .second, .val (.long vn0), .second] [(.double (9142307243562106880 : UInt64)), (.double (FP.l2d vn0)), (.double d)]))
        have hl := own_l2d (a := vn0) (by omega)
        rw [hN0] at hl
        have hm := own_mulP (D := 2081) hl own_D1007 (by decide) (by rw [Int.mul_one]; exact own_rep2 _ _ 36 (by decide) (by omega))
        rw [Int.mul_one] at hm
        refine own_Go.st (fun _ kt => XS.dmulS X37.here hx rfl (hb hby at_310) rfl (hm.n64) rfl kt) ?_
        show own_Go p e below _ (T37.setTop (mkF m 311 #[.val (.long p0), .second, .val (.long p1), .second, .val (.long p2), .second, .val (.int p3), .val (.int (1 : Int32)), .val (.int xat), .val (.int (1 : Int32)), .val (.int (0 : Int32)), .val (.ref rb), .val (.ref rw), .val (.long vn0), .second, .val (.long (1 : Int64)), .second, .val (.long (1 : Int64)), .second, .val (.double d), .second, .val (.long vn0), .second] [(.double (FP.dmul (FP.l2d vn0) (9142307243562106880 : UInt64))), (.double d)]))
        refine own_Go.st (fun _ kt => XS.dcmpS X37.here hx rfl (hb hby at_311) rfl (own_deq hv37 hm _) kt) ?_
        show own_Go p e below _ (T37.setTop (mkF m 312 #[.val (.long p0), .second, .val (.long p1), .second, .val (.long p2), .second, .val (.int p3), .val (.int (1 : Int32)), .val (.int xat), .val (.int (1 : Int32)), .val (.int (0 : Int32)), .val (.ref rb), .val (.ref rw), .val (.long vn0), .second, .val (.long (1 : Int64)), .second, .val (.long (1 : Int64)), .second, .val (.double d), .second, .val (.long vn0), .second] [(.int (0 : Int32))]))
        refine own_Go.st (fun _ kt => XS.ifNo X37.here hx rfl (hb hby at_312) rfl ((if0 _ _).trans (teq rfl).2) kt) ?_
        show own_Go p e below _ (T37.setTop (mkF m 315 #[.val (.long p0), .second, .val (.long p1), .second, .val (.long p2), .second, .val (.int p3), .val (.int (1 : Int32)), .val (.int xat), .val (.int (1 : Int32)), .val (.int (0 : Int32)), .val (.ref rb), .val (.ref rw), .val (.long vn0), .second, .val (.long (1 : Int64)), .second, .val (.long (1 : Int64)), .second, .val (.double d), .second, .val (.long vn0), .second] []))
        refine own_Go.st (fun _ kt => XS.iconst X37.here hx rfl (hb hby at_315) kt) ?_
        show own_Go p e below _ (T37.setTop (mkF m 316 #[.val (.long p0), .second, .val (.long p1), .second, .val (.long p2), .second, .val (.int p3), .val (.int (1 : Int32)), .val (.int xat), .val (.int (1 : Int32)), .val (.int (0 : Int32)), .val (.ref rb), .val (.ref rw), .val (.long vn0), .second, .val (.long (1 : Int64)), .second, .val (.long (1 : Int64)), .second, .val (.double d), .second, .val (.long vn0), .second] [(.int (1 : Int32))]))
        refine own_Go.st (fun _ kt => XS.goto X37.here hx rfl (pc0 := 316) (pc' := 320) rfl (hb hby at_316) (by decide) (by decide) kt) ?_
        show own_Go p e below _ (T37.setTop (mkF m 320 #[.val (.long p0), .second, .val (.long p1), .second, .val (.long p2), .second, .val (.int p3), .val (.int (1 : Int32)), .val (.int xat), .val (.int (1 : Int32)), .val (.int (0 : Int32)), .val (.ref rb), .val (.ref rw), .val (.long vn0), .second, .val (.long (1 : Int64)), .second, .val (.long (1 : Int64)), .second, .val (.double d), .second, .val (.long vn0), .second] [(.int (1 : Int32))]))
        exact own_retZ X37 hx Bd.notSynchronized Bd.returns (Or.inr rfl) (hb hby at_320) (by decide) (by decide) ⟨rfl, N37⟩
    · show own_Go p e below _ (T22.setTop (mkF m 128 #[.val (.long p0), .second, .val (.long p1), .second, .val (.long p2), .second, .val (.int p3), .val (.int (2 : Int32)), .val (.int xat), .val (.int xu), .val (.int xg), .val (.ref rb), .unset, .unset, .unset, .unset, .unset, .unset, .unset, .unset, .unset, .unset, .unset] [(.int (1 : Int32)), (.int (2 : Int32))]))
      rcases hu with rfl | rfl
      · show own_Go p e below _ (T22.setTop (mkF m 128 #[.val (.long p0), .second, .val (.long p1), .second, .val (.long p2), .second, .val (.int p3), .val (.int (2 : Int32)), .val (.int xat), .val (.int (0 : Int32)), .val (.int xg), .val (.ref rb), .unset, .unset, .unset, .unset, .unset, .unset, .unset, .unset, .unset, .unset, .unset] [(.int (1 : Int32)), (.int (2 : Int32))]))
        obtain ⟨ig, hig, lig⟩ := own_ax ((p3.toUInt32 >>> ((5 : Int32) &&& 31).toUInt32).toInt32) 2 2 (by decide) (by decide)
        rw [hxg] at hig
        refine own_Go.st (fun _ kt => XS.icmpYes X22.here hx rfl (pc0 := 128) (pc' := 137) rfl (hb hby at_128) rfl (feq (by decide)).2 (by decide) (by decide) kt) ?_
        show own_Go p e below _ (T22.setTop (mkF m 137 #[.val (.long p0), .second, .val (.long p1), .second, .val (.long p2), .second, .val (.int p3), .val (.int (2 : Int32)), .val (.int xat), .val (.int (0 : Int32)), .val (.int xg), .val (.ref rb), .unset, .unset, .unset, .unset, .unset, .unset, .unset, .unset, .unset, .unset, .unset] []))
        refine own_Go.st (fun _ kt => XS.iload X22.here hx rfl (hb hby at_137) rfl kt) ?_
        show own_Go p e below _ (T22.setTop (mkF m 139 #[.val (.long p0), .second, .val (.long p1), .second, .val (.long p2), .second, .val (.int p3), .val (.int (2 : Int32)), .val (.int xat), .val (.int (0 : Int32)), .val (.int xg), .val (.ref rb), .unset, .unset, .unset, .unset, .unset, .unset, .unset, .unset, .unset, .unset, .unset] [(.int (2 : Int32))]))
        refine own_Go.st (fun _ kt => XS.iconst X22.here hx rfl (hb hby at_139) kt) ?_
        show own_Go p e below _ (T22.setTop (mkF m 140 #[.val (.long p0), .second, .val (.long p1), .second, .val (.long p2), .second, .val (.int p3), .val (.int (2 : Int32)), .val (.int xat), .val (.int (0 : Int32)), .val (.int xg), .val (.ref rb), .unset, .unset, .unset, .unset, .unset, .unset, .unset, .unset, .unset, .unset, .unset] [(.int (2 : Int32)), (.int (2 : Int32))]))
        refine own_Go.st (fun _ kt => XS.icmpNo X22.here hx rfl (hb hby at_140) rfl (teq rfl).2 kt) ?_
        show own_Go p e below _ (T22.setTop (mkF m 143 #[.val (.long p0), .second, .val (.long p1), .second, .val (.long p2), .second, .val (.int p3), .val (.int (2 : Int32)), .val (.int xat), .val (.int (0 : Int32)), .val (.int xg), .val (.ref rb), .unset, .unset, .unset, .unset, .unset, .unset, .unset, .unset, .unset, .unset, .unset] []))
        refine own_Go.st (fun _ kt => XS.iconst X22.here hx rfl (hb hby at_143) kt) ?_
        show own_Go p e below _ (T22.setTop (mkF m 144 #[.val (.long p0), .second, .val (.long p1), .second, .val (.long p2), .second, .val (.int p3), .val (.int (2 : Int32)), .val (.int xat), .val (.int (0 : Int32)), .val (.int xg), .val (.ref rb), .unset, .unset, .unset, .unset, .unset, .unset, .unset, .unset, .unset, .unset, .unset] [(.int (2 : Int32))]))
        obtain ⟨T38, h38, k38, X38, e38, E38, A38, st38⟩ := newP X22 hx hZ (hw _ (List.mem_of_getElem? (i := 0) rfl)) e22 (g := (mkF m 144 #[.val (.long p0), .second, .val (.long p1), .second, .val (.long p2), .second, .val (.int p3), .val (.int (2 : Int32)), .val (.int xat), .val (.int (0 : Int32)), .val (.int xg), .val (.ref rb), .unset, .unset, .unset, .unset, .unset, .unset, .unset, .unset, .unset, .unset, .unset] [(.int (2 : Int32))])) rfl (hb hby at_144) rfl (by decide) (cap := 2) (by decide) (by decide) (by decide) (by decide)
        obtain ⟨rw, g38⟩ : ∃ z, z = Array.size h22 := ⟨_, rfl⟩
        rw [← g38] at A38 st38
        refine own_Go.st st38 ?_
        have ne_rb_rw : rb ≠ rw := Nat.ne_of_lt (Nat.lt_of_lt_of_le (ab).lt (Nat.le_of_eq g38.symm))
        have n0_rw : n0 ≤ rw := Nat.le_trans zz23 (Nat.le_of_eq g38.symm)
        have zz39 : n0 ≤ Array.size h38 := Nat.le_trans zz23 E38.1
        show own_Go p e below _ (T38.setTop (mkF m 146 #[.val (.long p0), .second, .val (.long p1), .second, .val (.long p2), .second, .val (.int p3), .val (.int (2 : Int32)), .val (.int xat), .val (.int (0 : Int32)), .val (.int xg), .val (.ref rb), .unset, .unset, .unset, .unset, .unset, .unset, .unset, .unset, .unset, .unset, .unset] [(.ref rw)]))
        obtain ⟨fw, aw⟩ : ∃ fw, own_Ar Z h38 rw .double 2 fw := ⟨_, own_Ar.new A38 (by decide)⟩
        refine own_Go.st (fun _ kt => XS.goto X38.here hx rfl (pc0 := 146) (pc' := 152) rfl (hb hby at_146) (by decide) (by decide) kt) ?_
        show own_Go p e below _ (T38.setTop (mkF m 152 #[.val (.long p0), .second, .val (.long p1), .second, .val (.long p2), .second, .val (.int p3), .val (.int (2 : Int32)), .val (.int xat), .val (.int (0 : Int32)), .val (.int xg), .val (.ref rb), .unset, .unset, .unset, .unset, .unset, .unset, .unset, .unset, .unset, .unset, .unset] [(.ref rw)]))
        refine own_Go.st (fun _ kt => XS.astore X38.here hx rfl (hb hby at_152) rfl rfl (l' := #[.val (.long p0), .second, .val (.long p1), .second, .val (.long p2), .second, .val (.int p3), .val (.int (2 : Int32)), .val (.int xat), .val (.int (0 : Int32)), .val (.int xg), .val (.ref rb), .val (.ref rw), .unset, .unset, .unset, .unset, .unset, .unset, .unset, .unset, .unset, .unset]) rfl kt) ?_
        show own_Go p e below _ (T38.setTop (mkF m 154 #[.val (.long p0), .second, .val (.long p1), .second, .val (.long p2), .second, .val (.int p3), .val (.int (2 : Int32)), .val (.int xat), .val (.int (0 : Int32)), .val (.int xg), .val (.ref rb), .val (.ref rw), .unset, .unset, .unset, .unset, .unset, .unset, .unset, .unset, .unset, .unset] []))
        refine own_Go.st (fun _ kt => XS.lloadN X38.here hx rfl (hb hby at_154) rfl kt) ?_
        show own_Go p e below _ (T38.setTop (mkF m 155 #[.val (.long p0), .second, .val (.long p1), .second, .val (.long p2), .second, .val (.int p3), .val (.int (2 : Int32)), .val (.int xat), .val (.int (0 : Int32)), .val (.int xg), .val (.ref rb), .val (.ref rw), .unset, .unset, .unset, .unset, .unset, .unset, .unset, .unset, .unset, .unset] [(.long p0)]))
        refine own_Go.st (fun _ kt => XS.iload X38.here hx rfl (hb hby at_155) rfl kt) ?_
        show own_Go p e below _ (T38.setTop (mkF m 157 #[.val (.long p0), .second, .val (.long p1), .second, .val (.long p2), .second, .val (.int p3), .val (.int (2 : Int32)), .val (.int xat), .val (.int (0 : Int32)), .val (.int xg), .val (.ref rb), .val (.ref rw), .unset, .unset, .unset, .unset, .unset, .unset, .unset, .unset, .unset, .unset] [(.int (0 : Int32)), (.long p0)]))
        refine own_Go.st (fun _ kt => XS.iload X38.here hx rfl (hb hby at_157) rfl kt) ?_
        show own_Go p e below _ (T38.setTop (mkF m 159 #[.val (.long p0), .second, .val (.long p1), .second, .val (.long p2), .second, .val (.int p3), .val (.int (2 : Int32)), .val (.int xat), .val (.int (0 : Int32)), .val (.int xg), .val (.ref rb), .val (.ref rw), .unset, .unset, .unset, .unset, .unset, .unset, .unset, .unset, .unset, .unset] [(.int xg), (.int (0 : Int32)), (.long p0)]))
        refine own_Go.st (fun _ kt => XS.iconst X38.here hx rfl (hb hby at_159) kt) ?_
        show own_Go p e below _ (T38.setTop (mkF m 160 #[.val (.long p0), .second, .val (.long p1), .second, .val (.long p2), .second, .val (.int p3), .val (.int (2 : Int32)), .val (.int xat), .val (.int (0 : Int32)), .val (.int xg), .val (.ref rb), .val (.ref rw), .unset, .unset, .unset, .unset, .unset, .unset, .unset, .unset, .unset, .unset] [(.int (0 : Int32)), (.int xg), (.int (0 : Int32)), (.long p0)]))
        obtain ⟨_, _, ⟨T40, L40, k40, n40⟩, -, X40, ⟨Lc40, hQ40, l40, y40, z40⟩, st40⟩ := Jvm.LawKit.callS X38 hx (y := (⟨"com/example/thicket/thicket/PackedLevelGrownVolumePinLaw", "mode", "(ZII)I"⟩ : MethodName)) hown (mvT hZ (hw _ (List.mem_of_getElem? (i := 11) rfl))) (mvT hZ (hw _ (List.mem_of_getElem? (i := 12) rfl))) (mvT hZ (hw _ (List.mem_of_getElem? (i := 13) rfl))) (mvT hZ (hw _ (List.mem_of_getElem? (i := 14) rfl))) (by decide) (backOf (W := 2) (own_mode l Z a0 hw [] (0 : Int32) xg (0 : Int32) h38 n0 zz39 ) hZ (hw _ (List.mem_of_getElem? (i := 14) rfl)) (hw _ (List.mem_of_getElem? (i := 13) rfl)) (by decide) (by decide)) (g := (mkF m 160 #[.val (.long p0), .second, .val (.long p1), .second, .val (.long p2), .second, .val (.int p3), .val (.int (2 : Int32)), .val (.int xat), .val (.int (0 : Int32)), .val (.int xg), .val (.ref rb), .val (.ref rw), .unset, .unset, .unset, .unset, .unset, .unset, .unset, .unset, .unset, .unset] [(.int (0 : Int32)), (.int xg), (.int (0 : Int32)), (.long p0)])) rfl (by rw [hml]; rfl) (argsL := [(.int (0 : Int32)), (.int xg), (.int (0 : Int32))]) (rest := [(.long p0)]) (lenOf own_pd1 rfl) rfl (by show 2 * 0 + _ ≤ _; exact Nat.le_of_eq rfl) (hb hby at_160) (fun _ _ => ⟨rfl, e38, (by decide : 2 + 0 ≤ _), (by decide : 12 + 0 ≤ _)⟩)
        dsimp only [Pt.U, Pt.locs, Pt.cells, Pt.slots] at X40 l40 y40 z40 st40 hQ40
        subst l40 y40 z40
        obtain ⟨rfl, N40q, hh40⟩ := hQ40
        have N40 := Fr.app N22 N40q
        refine own_Go.st (fun _ kt => st40 _ kt) ?_
        show own_Go p e below _ (T40.setTop (mkF m 163 #[.val (.long p0), .second, .val (.long p1), .second, .val (.long p2), .second, .val (.int p3), .val (.int (2 : Int32)), .val (.int xat), .val (.int (0 : Int32)), .val (.int xg), .val (.ref rb), .val (.ref rw), .unset, .unset, .unset, .unset, .unset, .unset, .unset, .unset, .unset, .unset] [(.int (if (0 : Int32) = 0 then (0 : Int32) else if (0 : Int32) = xg then 1 else 2)), (.long p0)]))
        rw [show (if (0 : Int32) = 0 then (0 : Int32) else if (0 : Int32) = xg then 1 else 2) = (0 : Int32) from (by simp)]
        show own_Go p e below _ (T40.setTop (mkF m 163 #[.val (.long p0), .second, .val (.long p1), .second, .val (.long p2), .second, .val (.int p3), .val (.int (2 : Int32)), .val (.int xat), .val (.int (0 : Int32)), .val (.int xg), .val (.ref rb), .val (.ref rw), .unset, .unset, .unset, .unset, .unset, .unset, .unset, .unset, .unset, .unset] [(.int (0 : Int32)), (.long p0)]))
        refine own_Go.st (fun _ kt => XS.aload X40.here hx rfl (hb hby at_163) rfl rfl kt) ?_
        show own_Go p e below _ (T40.setTop (mkF m 165 #[.val (.long p0), .second, .val (.long p1), .second, .val (.long p2), .second, .val (.int p3), .val (.int (2 : Int32)), .val (.int xat), .val (.int (0 : Int32)), .val (.int xg), .val (.ref rb), .val (.ref rw), .unset, .unset, .unset, .unset, .unset, .unset, .unset, .unset, .unset, .unset] [(.ref rb), (.int (0 : Int32)), (.long p0)]))
        refine own_Go.st (fun _ kt => XS.iload X40.here hx rfl (hb hby at_165) rfl kt) ?_
        show own_Go p e below _ (T40.setTop (mkF m 167 #[.val (.long p0), .second, .val (.long p1), .second, .val (.long p2), .second, .val (.int p3), .val (.int (2 : Int32)), .val (.int xat), .val (.int (0 : Int32)), .val (.int xg), .val (.ref rb), .val (.ref rw), .unset, .unset, .unset, .unset, .unset, .unset, .unset, .unset, .unset, .unset] [(.int xat), (.ref rb), (.int (0 : Int32)), (.long p0)]))
        refine own_Go.st (fun _ kt => XS.iload X40.here hx rfl (hb hby at_167) rfl kt) ?_
        show own_Go p e below _ (T40.setTop (mkF m 169 #[.val (.long p0), .second, .val (.long p1), .second, .val (.long p2), .second, .val (.int p3), .val (.int (2 : Int32)), .val (.int xat), .val (.int (0 : Int32)), .val (.int xg), .val (.ref rb), .val (.ref rw), .unset, .unset, .unset, .unset, .unset, .unset, .unset, .unset, .unset, .unset] [(.int xat), (.int xat), (.ref rb), (.int (0 : Int32)), (.long p0)]))
        refine own_Go.st (fun _ kt => XS.iload X40.here hx rfl (hb hby at_169) rfl kt) ?_
        show own_Go p e below _ (T40.setTop (mkF m 171 #[.val (.long p0), .second, .val (.long p1), .second, .val (.long p2), .second, .val (.int p3), .val (.int (2 : Int32)), .val (.int xat), .val (.int (0 : Int32)), .val (.int xg), .val (.ref rb), .val (.ref rw), .unset, .unset, .unset, .unset, .unset, .unset, .unset, .unset, .unset, .unset] [(.int (2 : Int32)), (.int xat), (.int xat), (.ref rb), (.int (0 : Int32)), (.long p0)]))
        refine own_Go.st (fun _ kt => XS.iadd X40.here hx rfl (hb hby at_171) rfl kt) ?_
        show own_Go p e below _ (T40.setTop (mkF m 172 #[.val (.long p0), .second, .val (.long p1), .second, .val (.long p2), .second, .val (.int p3), .val (.int (2 : Int32)), .val (.int xat), .val (.int (0 : Int32)), .val (.int xg), .val (.ref rb), .val (.ref rw), .unset, .unset, .unset, .unset, .unset, .unset, .unset, .unset, .unset, .unset] [(.int (xat + (2 : Int32))), (.int xat), (.ref rb), (.int (0 : Int32)), (.long p0)]))
        refine own_Go.st (fun _ kt => XS.aload X40.here hx rfl (hb hby at_172) rfl rfl kt) ?_
        show own_Go p e below _ (T40.setTop (mkF m 174 #[.val (.long p0), .second, .val (.long p1), .second, .val (.long p2), .second, .val (.int p3), .val (.int (2 : Int32)), .val (.int xat), .val (.int (0 : Int32)), .val (.int xg), .val (.ref rb), .val (.ref rw), .unset, .unset, .unset, .unset, .unset, .unset, .unset, .unset, .unset, .unset] [(.ref rw), (.int (xat + (2 : Int32))), (.int xat), (.ref rb), (.int (0 : Int32)), (.long p0)]))
        refine own_Go.st (fun _ kt => XS.iconst X40.here hx rfl (hb hby at_174) kt) ?_
        show own_Go p e below _ (T40.setTop (mkF m 175 #[.val (.long p0), .second, .val (.long p1), .second, .val (.long p2), .second, .val (.int p3), .val (.int (2 : Int32)), .val (.int xat), .val (.int (0 : Int32)), .val (.int xg), .val (.ref rb), .val (.ref rw), .unset, .unset, .unset, .unset, .unset, .unset, .unset, .unset, .unset, .unset] [(.int (0 : Int32)), (.ref rw), (.int (xat + (2 : Int32))), (.int xat), (.ref rb), (.int (0 : Int32)), (.long p0)]))
        have f41 := (ab.ext E38)
        obtain ⟨_, _, ⟨T42, L42, k42, n42⟩, -, X42, ⟨Lc42, hQ42, l42, y42, z42⟩, st42⟩ := Jvm.LawKit.callS X40 hx (y := (⟨"com/example/thicket/thicket/PackedLevelGrownVolumePinLaw", "fill", "(JI[DII[DI)J"⟩ : MethodName)) hown (mvT hZ (hw _ (List.mem_of_getElem? (i := 15) rfl))) (mvT hZ (hw _ (List.mem_of_getElem? (i := 16) rfl))) (mvT hZ (hw _ (List.mem_of_getElem? (i := 13) rfl))) (mvT hZ (hw _ (List.mem_of_getElem? (i := 17) rfl))) (by decide) (backOf (W := 0) (own_fill l Z a0 hw [] p0 (0 : Int32) rb xat (xat + (2 : Int32)) rw (0 : Int32) ia (ia + 2) 0 2 fb fw h38 n0 zz39 f41 aw ne_rb_rw n0_rb n0_rw hat (own_addn hat (e := 2) (by decide) (by omega) (by decide)) (by decide) (by omega) (by omega) (by decide) (by decide)) hZ (hw _ (List.mem_of_getElem? (i := 17) rfl)) (hw _ (List.mem_of_getElem? (i := 13) rfl)) (by decide) (by decide)) (g := (mkF m 175 #[.val (.long p0), .second, .val (.long p1), .second, .val (.long p2), .second, .val (.int p3), .val (.int (2 : Int32)), .val (.int xat), .val (.int (0 : Int32)), .val (.int xg), .val (.ref rb), .val (.ref rw), .unset, .unset, .unset, .unset, .unset, .unset, .unset, .unset, .unset, .unset] [(.int (0 : Int32)), (.ref rw), (.int (xat + (2 : Int32))), (.int xat), (.ref rb), (.int (0 : Int32)), (.long p0)])) rfl (by rw [hml]; rfl) (argsL := [(.long p0), (.int (0 : Int32)), (.ref rb), (.int xat), (.int (xat + (2 : Int32))), (.ref rw), (.int (0 : Int32))]) (rest := []) (lenOf own_pd2 rfl) rfl (by show 2 * 0 + _ ≤ _; exact Nat.le_of_eq rfl) (hb hby at_175) (fun _ _ => ⟨rfl, hh40, (by decide : 2 + 0 ≤ _), (by decide : 12 + 0 ≤ _)⟩)
        dsimp only [Pt.U, Pt.locs, Pt.cells, Pt.slots] at X42 l42 y42 z42 st42 hQ42
        subst l42 y42 z42
        obtain ⟨vn0, x0, y0, z0, G0, rfl, N42q, ex42, e242, e342, ab42, aw42, KF42⟩ := hQ42
        have N42 := Fr.app N40 N42q
        refine own_Go.st (fun _ kt => st42 _ kt) ?_
        have zz43 : n0 ≤ Array.size T42.heap := Nat.le_trans zz39 KF42.1
        show own_Go p e below _ (T42.setTop (mkF m 178 #[.val (.long p0), .second, .val (.long p1), .second, .val (.long p2), .second, .val (.int p3), .val (.int (2 : Int32)), .val (.int xat), .val (.int (0 : Int32)), .val (.int xg), .val (.ref rb), .val (.ref rw), .unset, .unset, .unset, .unset, .unset, .unset, .unset, .unset, .unset, .unset] [(.long vn0)]))
        generalize hfb1 : (fun j => if j = (ia + 2) then Value.double y0 else if j = ia then Value.double x0 else fb j) = fb1 at ab42
        generalize hfw1 : (fun j => if j = 0 then Value.double z0 else fw j) = fw1 at aw42
        have hN0 : vn0.toInt = G0 := e342 (by decide)
        refine own_Go.st (fun _ kt => XS.lstore X42.here hx rfl (hb hby at_178) rfl (l' := #[.val (.long p0), .second, .val (.long p1), .second, .val (.long p2), .second, .val (.int p3), .val (.int (2 : Int32)), .val (.int xat), .val (.int (0 : Int32)), .val (.int xg), .val (.ref rb), .val (.ref rw), .val (.long vn0), .second, .unset, .unset, .unset, .unset, .unset, .unset, .unset, .unset]) rfl kt) ?_
        show own_Go p e below _ (T42.setTop (mkF m 180 #[.val (.long p0), .second, .val (.long p1), .second, .val (.long p2), .second, .val (.int p3), .val (.int (2 : Int32)), .val (.int xat), .val (.int (0 : Int32)), .val (.int xg), .val (.ref rb), .val (.ref rw), .val (.long vn0), .second, .unset, .unset, .unset, .unset, .unset, .unset, .unset, .unset] []))
        refine own_Go.st (fun _ kt => XS.iload X42.here hx rfl (hb hby at_180) rfl kt) ?_
        show own_Go p e below _ (T42.setTop (mkF m 182 #[.val (.long p0), .second, .val (.long p1), .second, .val (.long p2), .second, .val (.int p3), .val (.int (2 : Int32)), .val (.int xat), .val (.int (0 : Int32)), .val (.int xg), .val (.ref rb), .val (.ref rw), .val (.long vn0), .second, .unset, .unset, .unset, .unset, .unset, .unset, .unset, .unset] [(.int (2 : Int32))]))
        refine own_Go.st (fun _ kt => XS.iconst X42.here hx rfl (hb hby at_182) kt) ?_
        show own_Go p e below _ (T42.setTop (mkF m 183 #[.val (.long p0), .second, .val (.long p1), .second, .val (.long p2), .second, .val (.int p3), .val (.int (2 : Int32)), .val (.int xat), .val (.int (0 : Int32)), .val (.int xg), .val (.ref rb), .val (.ref rw), .val (.long vn0), .second, .unset, .unset, .unset, .unset, .unset, .unset, .unset, .unset] [(.int (1 : Int32)), (.int (2 : Int32))]))
        refine own_Go.st (fun _ kt => XS.icmpNo X42.here hx rfl (hb hby at_183) rfl (tlt (by decide)).2.2.2 kt) ?_
        show own_Go p e below _ (T42.setTop (mkF m 186 #[.val (.long p0), .second, .val (.long p1), .second, .val (.long p2), .second, .val (.int p3), .val (.int (2 : Int32)), .val (.int xat), .val (.int (0 : Int32)), .val (.int xg), .val (.ref rb), .val (.ref rw), .val (.long vn0), .second, .unset, .unset, .unset, .unset, .unset, .unset, .unset, .unset] []))
        refine own_Go.st (fun _ kt => XS.lloadN X42.here hx rfl (hb hby at_186) rfl kt) ?_
        show own_Go p e below _ (T42.setTop (mkF m 187 #[.val (.long p0), .second, .val (.long p1), .second, .val (.long p2), .second, .val (.int p3), .val (.int (2 : Int32)), .val (.int xat), .val (.int (0 : Int32)), .val (.int xg), .val (.ref rb), .val (.ref rw), .val (.long vn0), .second, .unset, .unset, .unset, .unset, .unset, .unset, .unset, .unset] [(.long p1)]))
        refine own_Go.st (fun _ kt => XS.iload X42.here hx rfl (hb hby at_187) rfl kt) ?_
        show own_Go p e below _ (T42.setTop (mkF m 189 #[.val (.long p0), .second, .val (.long p1), .second, .val (.long p2), .second, .val (.int p3), .val (.int (2 : Int32)), .val (.int xat), .val (.int (0 : Int32)), .val (.int xg), .val (.ref rb), .val (.ref rw), .val (.long vn0), .second, .unset, .unset, .unset, .unset, .unset, .unset, .unset, .unset] [(.int (0 : Int32)), (.long p1)]))
        refine own_Go.st (fun _ kt => XS.iload X42.here hx rfl (hb hby at_189) rfl kt) ?_
        show own_Go p e below _ (T42.setTop (mkF m 191 #[.val (.long p0), .second, .val (.long p1), .second, .val (.long p2), .second, .val (.int p3), .val (.int (2 : Int32)), .val (.int xat), .val (.int (0 : Int32)), .val (.int xg), .val (.ref rb), .val (.ref rw), .val (.long vn0), .second, .unset, .unset, .unset, .unset, .unset, .unset, .unset, .unset] [(.int xg), (.int (0 : Int32)), (.long p1)]))
        refine own_Go.st (fun _ kt => XS.iconst X42.here hx rfl (hb hby at_191) kt) ?_
        show own_Go p e below _ (T42.setTop (mkF m 192 #[.val (.long p0), .second, .val (.long p1), .second, .val (.long p2), .second, .val (.int p3), .val (.int (2 : Int32)), .val (.int xat), .val (.int (0 : Int32)), .val (.int xg), .val (.ref rb), .val (.ref rw), .val (.long vn0), .second, .unset, .unset, .unset, .unset, .unset, .unset, .unset, .unset] [(.int (1 : Int32)), (.int xg), (.int (0 : Int32)), (.long p1)]))
        obtain ⟨_, _, ⟨T44, L44, k44, n44⟩, -, X44, ⟨Lc44, hQ44, l44, y44, z44⟩, st44⟩ := Jvm.LawKit.callS X42 hx (y := (⟨"com/example/thicket/thicket/PackedLevelGrownVolumePinLaw", "mode", "(ZII)I"⟩ : MethodName)) hown (mvT hZ (hw _ (List.mem_of_getElem? (i := 11) rfl))) (mvT hZ (hw _ (List.mem_of_getElem? (i := 12) rfl))) (mvT hZ (hw _ (List.mem_of_getElem? (i := 13) rfl))) (mvT hZ (hw _ (List.mem_of_getElem? (i := 14) rfl))) (by decide) (backOf (W := 2) (own_mode l Z a0 hw [] (0 : Int32) xg (1 : Int32) T42.heap n0 zz43 ) hZ (hw _ (List.mem_of_getElem? (i := 14) rfl)) (hw _ (List.mem_of_getElem? (i := 13) rfl)) (by decide) (by decide)) (g := (mkF m 192 #[.val (.long p0), .second, .val (.long p1), .second, .val (.long p2), .second, .val (.int p3), .val (.int (2 : Int32)), .val (.int xat), .val (.int (0 : Int32)), .val (.int xg), .val (.ref rb), .val (.ref rw), .val (.long vn0), .second, .unset, .unset, .unset, .unset, .unset, .unset, .unset, .unset] [(.int (1 : Int32)), (.int xg), (.int (0 : Int32)), (.long p1)])) rfl (by rw [hml]; rfl) (argsL := [(.int (0 : Int32)), (.int xg), (.int (1 : Int32))]) (rest := [(.long p1)]) (lenOf own_pd1 rfl) rfl (by show 2 * 0 + _ ≤ _; exact Nat.le_of_eq rfl) (hb hby at_192) (fun _ _ => ⟨rfl, rfl, (by decide : 2 + 0 ≤ _), (by decide : 12 + 0 ≤ _)⟩)
        dsimp only [Pt.U, Pt.locs, Pt.cells, Pt.slots] at X44 l44 y44 z44 st44 hQ44
        subst l44 y44 z44
        obtain ⟨rfl, N44q, hh44⟩ := hQ44
        have N44 := Fr.app N42 N44q
        refine own_Go.st (fun _ kt => st44 _ kt) ?_
        show own_Go p e below _ (T44.setTop (mkF m 195 #[.val (.long p0), .second, .val (.long p1), .second, .val (.long p2), .second, .val (.int p3), .val (.int (2 : Int32)), .val (.int xat), .val (.int (0 : Int32)), .val (.int xg), .val (.ref rb), .val (.ref rw), .val (.long vn0), .second, .unset, .unset, .unset, .unset, .unset, .unset, .unset, .unset] [(.int (if (0 : Int32) = 0 then (0 : Int32) else if (1 : Int32) = xg then 1 else 2)), (.long p1)]))
        rw [show (if (0 : Int32) = 0 then (0 : Int32) else if (1 : Int32) = xg then 1 else 2) = (0 : Int32) from (by simp)]
        show own_Go p e below _ (T44.setTop (mkF m 195 #[.val (.long p0), .second, .val (.long p1), .second, .val (.long p2), .second, .val (.int p3), .val (.int (2 : Int32)), .val (.int xat), .val (.int (0 : Int32)), .val (.int xg), .val (.ref rb), .val (.ref rw), .val (.long vn0), .second, .unset, .unset, .unset, .unset, .unset, .unset, .unset, .unset] [(.int (0 : Int32)), (.long p1)]))
        refine own_Go.st (fun _ kt => XS.aload X44.here hx rfl (hb hby at_195) rfl rfl kt) ?_
        show own_Go p e below _ (T44.setTop (mkF m 197 #[.val (.long p0), .second, .val (.long p1), .second, .val (.long p2), .second, .val (.int p3), .val (.int (2 : Int32)), .val (.int xat), .val (.int (0 : Int32)), .val (.int xg), .val (.ref rb), .val (.ref rw), .val (.long vn0), .second, .unset, .unset, .unset, .unset, .unset, .unset, .unset, .unset] [(.ref rb), (.int (0 : Int32)), (.long p1)]))
        refine own_Go.st (fun _ kt => XS.iload X44.here hx rfl (hb hby at_197) rfl kt) ?_
        show own_Go p e below _ (T44.setTop (mkF m 199 #[.val (.long p0), .second, .val (.long p1), .second, .val (.long p2), .second, .val (.int p3), .val (.int (2 : Int32)), .val (.int xat), .val (.int (0 : Int32)), .val (.int xg), .val (.ref rb), .val (.ref rw), .val (.long vn0), .second, .unset, .unset, .unset, .unset, .unset, .unset, .unset, .unset] [(.int xat), (.ref rb), (.int (0 : Int32)), (.long p1)]))
        refine own_Go.st (fun _ kt => XS.iconst X44.here hx rfl (hb hby at_199) kt) ?_
        show own_Go p e below _ (T44.setTop (mkF m 200 #[.val (.long p0), .second, .val (.long p1), .second, .val (.long p2), .second, .val (.int p3), .val (.int (2 : Int32)), .val (.int xat), .val (.int (0 : Int32)), .val (.int xg), .val (.ref rb), .val (.ref rw), .val (.long vn0), .second, .unset, .unset, .unset, .unset, .unset, .unset, .unset, .unset] [(.int (1 : Int32)), (.int xat), (.ref rb), (.int (0 : Int32)), (.long p1)]))
        refine own_Go.st (fun _ kt => XS.iadd X44.here hx rfl (hb hby at_200) rfl kt) ?_
        show own_Go p e below _ (T44.setTop (mkF m 201 #[.val (.long p0), .second, .val (.long p1), .second, .val (.long p2), .second, .val (.int p3), .val (.int (2 : Int32)), .val (.int xat), .val (.int (0 : Int32)), .val (.int xg), .val (.ref rb), .val (.ref rw), .val (.long vn0), .second, .unset, .unset, .unset, .unset, .unset, .unset, .unset, .unset] [(.int (xat + (1 : Int32))), (.ref rb), (.int (0 : Int32)), (.long p1)]))
        refine own_Go.st (fun _ kt => XS.iload X44.here hx rfl (hb hby at_201) rfl kt) ?_
        show own_Go p e below _ (T44.setTop (mkF m 203 #[.val (.long p0), .second, .val (.long p1), .second, .val (.long p2), .second, .val (.int p3), .val (.int (2 : Int32)), .val (.int xat), .val (.int (0 : Int32)), .val (.int xg), .val (.ref rb), .val (.ref rw), .val (.long vn0), .second, .unset, .unset, .unset, .unset, .unset, .unset, .unset, .unset] [(.int xat), (.int (xat + (1 : Int32))), (.ref rb), (.int (0 : Int32)), (.long p1)]))
        refine own_Go.st (fun _ kt => XS.iload X44.here hx rfl (hb hby at_203) rfl kt) ?_
        show own_Go p e below _ (T44.setTop (mkF m 205 #[.val (.long p0), .second, .val (.long p1), .second, .val (.long p2), .second, .val (.int p3), .val (.int (2 : Int32)), .val (.int xat), .val (.int (0 : Int32)), .val (.int xg), .val (.ref rb), .val (.ref rw), .val (.long vn0), .second, .unset, .unset, .unset, .unset, .unset, .unset, .unset, .unset] [(.int (2 : Int32)), (.int xat), (.int (xat + (1 : Int32))), (.ref rb), (.int (0 : Int32)), (.long p1)]))
        refine own_Go.st (fun _ kt => XS.iadd X44.here hx rfl (hb hby at_205) rfl kt) ?_
        show own_Go p e below _ (T44.setTop (mkF m 206 #[.val (.long p0), .second, .val (.long p1), .second, .val (.long p2), .second, .val (.int p3), .val (.int (2 : Int32)), .val (.int xat), .val (.int (0 : Int32)), .val (.int xg), .val (.ref rb), .val (.ref rw), .val (.long vn0), .second, .unset, .unset, .unset, .unset, .unset, .unset, .unset, .unset] [(.int (xat + (2 : Int32))), (.int (xat + (1 : Int32))), (.ref rb), (.int (0 : Int32)), (.long p1)]))
        refine own_Go.st (fun _ kt => XS.iconst X44.here hx rfl (hb hby at_206) kt) ?_
        show own_Go p e below _ (T44.setTop (mkF m 207 #[.val (.long p0), .second, .val (.long p1), .second, .val (.long p2), .second, .val (.int p3), .val (.int (2 : Int32)), .val (.int xat), .val (.int (0 : Int32)), .val (.int xg), .val (.ref rb), .val (.ref rw), .val (.long vn0), .second, .unset, .unset, .unset, .unset, .unset, .unset, .unset, .unset] [(.int (1 : Int32)), (.int (xat + (2 : Int32))), (.int (xat + (1 : Int32))), (.ref rb), (.int (0 : Int32)), (.long p1)]))
        refine own_Go.st (fun _ kt => XS.iadd X44.here hx rfl (hb hby at_207) rfl kt) ?_
        show own_Go p e below _ (T44.setTop (mkF m 208 #[.val (.long p0), .second, .val (.long p1), .second, .val (.long p2), .second, .val (.int p3), .val (.int (2 : Int32)), .val (.int xat), .val (.int (0 : Int32)), .val (.int xg), .val (.ref rb), .val (.ref rw), .val (.long vn0), .second, .unset, .unset, .unset, .unset, .unset, .unset, .unset, .unset] [(.int ((xat + (2 : Int32)) + (1 : Int32))), (.int (xat + (1 : Int32))), (.ref rb), (.int (0 : Int32)), (.long p1)]))
        refine own_Go.st (fun _ kt => XS.aload X44.here hx rfl (hb hby at_208) rfl rfl kt) ?_
        show own_Go p e below _ (T44.setTop (mkF m 210 #[.val (.long p0), .second, .val (.long p1), .second, .val (.long p2), .second, .val (.int p3), .val (.int (2 : Int32)), .val (.int xat), .val (.int (0 : Int32)), .val (.int xg), .val (.ref rb), .val (.ref rw), .val (.long vn0), .second, .unset, .unset, .unset, .unset, .unset, .unset, .unset, .unset] [(.ref rw), (.int ((xat + (2 : Int32)) + (1 : Int32))), (.int (xat + (1 : Int32))), (.ref rb), (.int (0 : Int32)), (.long p1)]))
        refine own_Go.st (fun _ kt => XS.iconst X44.here hx rfl (hb hby at_210) kt) ?_
        show own_Go p e below _ (T44.setTop (mkF m 211 #[.val (.long p0), .second, .val (.long p1), .second, .val (.long p2), .second, .val (.int p3), .val (.int (2 : Int32)), .val (.int xat), .val (.int (0 : Int32)), .val (.int xg), .val (.ref rb), .val (.ref rw), .val (.long vn0), .second, .unset, .unset, .unset, .unset, .unset, .unset, .unset, .unset] [(.int (1 : Int32)), (.ref rw), (.int ((xat + (2 : Int32)) + (1 : Int32))), (.int (xat + (1 : Int32))), (.ref rb), (.int (0 : Int32)), (.long p1)]))
        obtain ⟨_, _, ⟨T45, L45, k45, n45⟩, -, X45, ⟨Lc45, hQ45, l45, y45, z45⟩, st45⟩ := Jvm.LawKit.callS X44 hx (y := (⟨"com/example/thicket/thicket/PackedLevelGrownVolumePinLaw", "fill", "(JI[DII[DI)J"⟩ : MethodName)) hown (mvT hZ (hw _ (List.mem_of_getElem? (i := 15) rfl))) (mvT hZ (hw _ (List.mem_of_getElem? (i := 16) rfl))) (mvT hZ (hw _ (List.mem_of_getElem? (i := 13) rfl))) (mvT hZ (hw _ (List.mem_of_getElem? (i := 17) rfl))) (by decide) (backOf (W := 0) (own_fill l Z a0 hw [] p1 (0 : Int32) rb (xat + (1 : Int32)) ((xat + (2 : Int32)) + (1 : Int32)) rw (1 : Int32) (ia + 1) (ia + 2 + 1) 1 2 fb1 fw1 T42.heap n0 zz43 ab42 aw42 ne_rb_rw n0_rb n0_rw (own_addn hat (e := 1) (by decide) (by omega) (by decide)) (own_addn (own_addn hat (e := 2) (by decide) (by omega) (by decide)) (e := 1) (by decide) (by omega) (by decide)) (by decide) (by omega) (by omega) (by decide) (by decide)) hZ (hw _ (List.mem_of_getElem? (i := 17) rfl)) (hw _ (List.mem_of_getElem? (i := 13) rfl)) (by decide) (by decide)) (g := (mkF m 211 #[.val (.long p0), .second, .val (.long p1), .second, .val (.long p2), .second, .val (.int p3), .val (.int (2 : Int32)), .val (.int xat), .val (.int (0 : Int32)), .val (.int xg), .val (.ref rb), .val (.ref rw), .val (.long vn0), .second, .unset, .unset, .unset, .unset, .unset, .unset, .unset, .unset] [(.int (1 : Int32)), (.ref rw), (.int ((xat + (2 : Int32)) + (1 : Int32))), (.int (xat + (1 : Int32))), (.ref rb), (.int (0 : Int32)), (.long p1)])) rfl (by rw [hml]; rfl) (argsL := [(.long p1), (.int (0 : Int32)), (.ref rb), (.int (xat + (1 : Int32))), (.int ((xat + (2 : Int32)) + (1 : Int32))), (.ref rw), (.int (1 : Int32))]) (rest := []) (lenOf own_pd2 rfl) rfl (by show 2 * 0 + _ ≤ _; exact Nat.le_of_eq rfl) (hb hby at_211) (fun _ _ => ⟨rfl, hh44, (by decide : 2 + 0 ≤ _), (by decide : 12 + 0 ≤ _)⟩)
        dsimp only [Pt.U, Pt.locs, Pt.cells, Pt.slots] at X45 l45 y45 z45 st45 hQ45
        subst l45 y45 z45
        obtain ⟨vn1, x1, y1, z1, G1, rfl, N45q, ex45, e245, e345, ab45, aw45, KF45⟩ := hQ45
        have N45 := Fr.app N44 N45q
        refine own_Go.st (fun _ kt => st45 _ kt) ?_
        have zz46 : n0 ≤ Array.size T45.heap := Nat.le_trans zz43 KF45.1
        show own_Go p e below _ (T45.setTop (mkF m 214 #[.val (.long p0), .second, .val (.long p1), .second, .val (.long p2), .second, .val (.int p3), .val (.int (2 : Int32)), .val (.int xat), .val (.int (0 : Int32)), .val (.int xg), .val (.ref rb), .val (.ref rw), .val (.long vn0), .second, .unset, .unset, .unset, .unset, .unset, .unset, .unset, .unset] [(.long vn1)]))
        generalize hfb2 : (fun j => if j = (ia + 2 + 1) then Value.double y1 else if j = (ia + 1) then Value.double x1 else fb1 j) = fb2 at ab45
        generalize hfw2 : (fun j => if j = 1 then Value.double z1 else fw1 j) = fw2 at aw45
        have hN1 : vn1.toInt = G1 := e345 (by decide)
        refine own_Go.st (fun _ kt => XS.goto X45.here hx rfl (pc0 := 214) (pc' := 218) rfl (hb hby at_214) (by decide) (by decide) kt) ?_
        show own_Go p e below _ (T45.setTop (mkF m 218 #[.val (.long p0), .second, .val (.long p1), .second, .val (.long p2), .second, .val (.int p3), .val (.int (2 : Int32)), .val (.int xat), .val (.int (0 : Int32)), .val (.int xg), .val (.ref rb), .val (.ref rw), .val (.long vn0), .second, .unset, .unset, .unset, .unset, .unset, .unset, .unset, .unset] [(.long vn1)]))
        refine own_Go.st (fun _ kt => XS.lstore X45.here hx rfl (hb hby at_218) rfl (l' := #[.val (.long p0), .second, .val (.long p1), .second, .val (.long p2), .second, .val (.int p3), .val (.int (2 : Int32)), .val (.int xat), .val (.int (0 : Int32)), .val (.int xg), .val (.ref rb), .val (.ref rw), .val (.long vn0), .second, .val (.long vn1), .second, .unset, .unset, .unset, .unset, .unset, .unset]) rfl kt) ?_
        show own_Go p e below _ (T45.setTop (mkF m 220 #[.val (.long p0), .second, .val (.long p1), .second, .val (.long p2), .second, .val (.int p3), .val (.int (2 : Int32)), .val (.int xat), .val (.int (0 : Int32)), .val (.int xg), .val (.ref rb), .val (.ref rw), .val (.long vn0), .second, .val (.long vn1), .second, .unset, .unset, .unset, .unset, .unset, .unset] []))
        refine own_Go.st (fun _ kt => XS.iload X45.here hx rfl (hb hby at_220) rfl kt) ?_
        show own_Go p e below _ (T45.setTop (mkF m 222 #[.val (.long p0), .second, .val (.long p1), .second, .val (.long p2), .second, .val (.int p3), .val (.int (2 : Int32)), .val (.int xat), .val (.int (0 : Int32)), .val (.int xg), .val (.ref rb), .val (.ref rw), .val (.long vn0), .second, .val (.long vn1), .second, .unset, .unset, .unset, .unset, .unset, .unset] [(.int (2 : Int32))]))
        refine own_Go.st (fun _ kt => XS.iconst X45.here hx rfl (hb hby at_222) kt) ?_
        show own_Go p e below _ (T45.setTop (mkF m 223 #[.val (.long p0), .second, .val (.long p1), .second, .val (.long p2), .second, .val (.int p3), .val (.int (2 : Int32)), .val (.int xat), .val (.int (0 : Int32)), .val (.int xg), .val (.ref rb), .val (.ref rw), .val (.long vn0), .second, .val (.long vn1), .second, .unset, .unset, .unset, .unset, .unset, .unset] [(.int (2 : Int32)), (.int (2 : Int32))]))
        refine own_Go.st (fun _ kt => XS.icmpYes X45.here hx rfl (pc0 := 223) (pc' := 258) rfl (hb hby at_223) rfl (flt (by decide)).2.2.2 (by decide) (by decide) kt) ?_
        show own_Go p e below _ (T45.setTop (mkF m 258 #[.val (.long p0), .second, .val (.long p1), .second, .val (.long p2), .second, .val (.int p3), .val (.int (2 : Int32)), .val (.int xat), .val (.int (0 : Int32)), .val (.int xg), .val (.ref rb), .val (.ref rw), .val (.long vn0), .second, .val (.long vn1), .second, .unset, .unset, .unset, .unset, .unset, .unset] []))
        refine own_Go.st (fun _ kt => XS.lconst X45.here hx rfl (hb hby at_258) kt) ?_
        show own_Go p e below _ (T45.setTop (mkF m 259 #[.val (.long p0), .second, .val (.long p1), .second, .val (.long p2), .second, .val (.int p3), .val (.int (2 : Int32)), .val (.int xat), .val (.int (0 : Int32)), .val (.int xg), .val (.ref rb), .val (.ref rw), .val (.long vn0), .second, .val (.long vn1), .second, .unset, .unset, .unset, .unset, .unset, .unset] [(.long (1 : Int64))]))
        refine own_Go.st (fun _ kt => XS.lstore X45.here hx rfl (hb hby at_259) rfl (l' := #[.val (.long p0), .second, .val (.long p1), .second, .val (.long p2), .second, .val (.int p3), .val (.int (2 : Int32)), .val (.int xat), .val (.int (0 : Int32)), .val (.int xg), .val (.ref rb), .val (.ref rw), .val (.long vn0), .second, .val (.long vn1), .second, .val (.long (1 : Int64)), .second, .unset, .unset, .unset, .unset]) rfl kt) ?_
        show own_Go p e below _ (T45.setTop (mkF m 261 #[.val (.long p0), .second, .val (.long p1), .second, .val (.long p2), .second, .val (.int p3), .val (.int (2 : Int32)), .val (.int xat), .val (.int (0 : Int32)), .val (.int xg), .val (.ref rb), .val (.ref rw), .val (.long vn0), .second, .val (.long vn1), .second, .val (.long (1 : Int64)), .second, .unset, .unset, .unset, .unset] []))
        refine own_Go.st (fun _ kt => XS.aload X45.here hx rfl (hb hby at_261) rfl rfl kt) ?_
        show own_Go p e below _ (T45.setTop (mkF m 263 #[.val (.long p0), .second, .val (.long p1), .second, .val (.long p2), .second, .val (.int p3), .val (.int (2 : Int32)), .val (.int xat), .val (.int (0 : Int32)), .val (.int xg), .val (.ref rb), .val (.ref rw), .val (.long vn0), .second, .val (.long vn1), .second, .val (.long (1 : Int64)), .second, .unset, .unset, .unset, .unset] [(.ref rb)]))
        refine own_Go.st (fun _ kt => XS.iload X45.here hx rfl (hb hby at_263) rfl kt) ?_
        show own_Go p e below _ (T45.setTop (mkF m 265 #[.val (.long p0), .second, .val (.long p1), .second, .val (.long p2), .second, .val (.int p3), .val (.int (2 : Int32)), .val (.int xat), .val (.int (0 : Int32)), .val (.int xg), .val (.ref rb), .val (.ref rw), .val (.long vn0), .second, .val (.long vn1), .second, .val (.long (1 : Int64)), .second, .unset, .unset, .unset, .unset] [(.int xat), (.ref rb)]))
        refine own_Go.st (fun _ kt => XS.aload X45.here hx rfl (hb hby at_265) rfl rfl kt) ?_
        show own_Go p e below _ (T45.setTop (mkF m 267 #[.val (.long p0), .second, .val (.long p1), .second, .val (.long p2), .second, .val (.int p3), .val (.int (2 : Int32)), .val (.int xat), .val (.int (0 : Int32)), .val (.int xg), .val (.ref rb), .val (.ref rw), .val (.long vn0), .second, .val (.long vn1), .second, .val (.long (1 : Int64)), .second, .unset, .unset, .unset, .unset] [(.ref rw), (.int xat), (.ref rb)]))
        have fx0 : fb2 (ia + 0) = .double x0 := by
          subst hfb2 hfb1
          dsimp only
          repeat (first | rw [if_pos (by omega)] | rw [if_neg (by omega)])
        have fy0 : fb2 (ia + 2 + 0) = .double y0 := by
          subst hfb2 hfb1
          dsimp only
          repeat (first | rw [if_pos (by omega)] | rw [if_neg (by omega)])
        have fz0 : fw2 0 = .double z0 := by
          subst hfw2 hfw1
          rfl
        have fx1 : fb2 (ia + 1) = .double x1 := by
          subst hfb2 hfb1
          dsimp only
          repeat (first | rw [if_pos (by omega)] | rw [if_neg (by omega)])
        have fy1 : fb2 (ia + 2 + 1) = .double y1 := by
          subst hfb2 hfb1
          dsimp only
          repeat (first | rw [if_pos (by omega)] | rw [if_neg (by omega)])
        have fz1 : fw2 1 = .double z1 := by
          subst hfw2 hfw1
          rfl
        have bN0 := own_nb ex42
        have bN1 := own_nb ex45
        have r1 : own_Rep (G0 * G1 * ((2 ^ 1070 : Nat) : Int)) := own_rep _ _ (own_b2 bN0 bN1) (by decide)
        obtain ⟨_, _, ⟨T47, L47, k47, n47⟩, -, X47, ⟨Lc47, hQ47, l47, y47, z47⟩, st47⟩ := Jvm.LawKit.callS X45 hx (y := (⟨"com/example/thicket/thicket/PackedLevel", "grownVolume", "([DI[D)D"⟩ : MethodName)) hown (mvT hZ (hw _ (List.mem_of_getElem? (i := 28) rfl))) (mvT hZ (hw _ (List.mem_of_getElem? (i := 29) rfl))) (mvT hZ (hw _ (List.mem_of_getElem? (i := 30) rfl))) (mvT hZ (hw _ (List.mem_of_getElem? (i := 31) rfl))) (by decide) (backOf (W := 0) (own_gv2 l Z a0 hw [] rb xat rw ia fb2 fw2 x0 y0 z0 G0 1072 x1 y1 z1 G1 1072 1070 T45.heap n0 zz46 ab45 aw45 hat la ex42 (by decide) fx0 fy0 fz0 ex45 (by decide) fx1 fy1 fz1 (by decide) r1) hZ (hw _ (List.mem_of_getElem? (i := 31) rfl)) (hw _ (List.mem_of_getElem? (i := 30) rfl)) (by decide) (by decide)) (g := (mkF m 267 #[.val (.long p0), .second, .val (.long p1), .second, .val (.long p2), .second, .val (.int p3), .val (.int (2 : Int32)), .val (.int xat), .val (.int (0 : Int32)), .val (.int xg), .val (.ref rb), .val (.ref rw), .val (.long vn0), .second, .val (.long vn1), .second, .val (.long (1 : Int64)), .second, .unset, .unset, .unset, .unset] [(.ref rw), (.int xat), (.ref rb)])) rfl (by rw [hml]; rfl) (argsL := [(.ref rb), (.int xat), (.ref rw)]) (rest := []) (lenOf own_pd3 rfl) rfl (by show 2 * 0 + _ ≤ _; exact Nat.le_of_eq rfl) (hb hby at_267) (fun _ _ => ⟨rfl, rfl, (by decide : 2 + 0 ≤ _), (by decide : 12 + 0 ≤ _)⟩)
        dsimp only [Pt.U, Pt.locs, Pt.cells, Pt.slots] at X47 l47 y47 z47 st47 hQ47
        subst l47 y47 z47
        obtain ⟨d, rfl, N47q, hv47, hh47⟩ := hQ47
        have N47 := Fr.app N45 N47q
        refine own_Go.st (fun _ kt => st47 _ kt) ?_
        show own_Go p e below _ (T47.setTop (mkF m 270 #[.val (.long p0), .second, .val (.long p1), .second, .val (.long p2), .second, .val (.int p3), .val (.int (2 : Int32)), .val (.int xat), .val (.int (0 : Int32)), .val (.int xg), .val (.ref rb), .val (.ref rw), .val (.long vn0), .second, .val (.long vn1), .second, .val (.long (1 : Int64)), .second, .unset, .unset, .unset, .unset] [(.double d)]))
        refine own_Go.st (fun _ kt => XS.dstore X47.here hx rfl (hb hby at_270) rfl (l' := #[.val (.long p0), .second, .val (.long p1), .second, .val (.long p2), .second, .val (.int p3), .val (.int (2 : Int32)), .val (.int xat), .val (.int (0 : Int32)), .val (.int xg), .val (.ref rb), .val (.ref rw), .val (.long vn0), .second, .val (.long vn1), .second, .val (.long (1 : Int64)), .second, .val (.double d), .second, .unset, .unset]) rfl kt) ?_
        show own_Go p e below _ (T47.setTop (mkF m 272 #[.val (.long p0), .second, .val (.long p1), .second, .val (.long p2), .second, .val (.int p3), .val (.int (2 : Int32)), .val (.int xat), .val (.int (0 : Int32)), .val (.int xg), .val (.ref rb), .val (.ref rw), .val (.long vn0), .second, .val (.long vn1), .second, .val (.long (1 : Int64)), .second, .val (.double d), .second, .unset, .unset] []))
        refine own_Go.st (fun _ kt => XS.iload X47.here hx rfl (hb hby at_272) rfl kt) ?_
        show own_Go p e below _ (T47.setTop (mkF m 274 #[.val (.long p0), .second, .val (.long p1), .second, .val (.long p2), .second, .val (.int p3), .val (.int (2 : Int32)), .val (.int xat), .val (.int (0 : Int32)), .val (.int xg), .val (.ref rb), .val (.ref rw), .val (.long vn0), .second, .val (.long vn1), .second, .val (.long (1 : Int64)), .second, .val (.double d), .second, .unset, .unset] [(.int (0 : Int32))]))
        refine own_Go.st (fun _ kt => XS.ifYes X47.here hx rfl (pc0 := 274) (pc' := 321) rfl (hb hby at_274) rfl ((if0 _ _).trans (teq rfl).1) (by decide) (by decide) kt) ?_
        show own_Go p e below _ (T47.setTop (mkF m 321 #[.val (.long p0), .second, .val (.long p1), .second, .val (.long p2), .second, .val (.int p3), .val (.int (2 : Int32)), .val (.int xat), .val (.int (0 : Int32)), .val (.int xg), .val (.ref rb), .val (.ref rw), .val (.long vn0), .second, .val (.long vn1), .second, .val (.long (1 : Int64)), .second, .val (.double d), .second, .unset, .unset] []))
        refine own_Go.st (fun _ kt => XS.iload X47.here hx rfl (hb hby at_321) rfl kt) ?_
        show own_Go p e below _ (T47.setTop (mkF m 323 #[.val (.long p0), .second, .val (.long p1), .second, .val (.long p2), .second, .val (.int p3), .val (.int (2 : Int32)), .val (.int xat), .val (.int (0 : Int32)), .val (.int xg), .val (.ref rb), .val (.ref rw), .val (.long vn0), .second, .val (.long vn1), .second, .val (.long (1 : Int64)), .second, .val (.double d), .second, .unset, .unset] [(.int (2 : Int32))]))
        refine own_Go.st (fun _ kt => XS.iconst X47.here hx rfl (hb hby at_323) kt) ?_
        show own_Go p e below _ (T47.setTop (mkF m 324 #[.val (.long p0), .second, .val (.long p1), .second, .val (.long p2), .second, .val (.int p3), .val (.int (2 : Int32)), .val (.int xat), .val (.int (0 : Int32)), .val (.int xg), .val (.ref rb), .val (.ref rw), .val (.long vn0), .second, .val (.long vn1), .second, .val (.long (1 : Int64)), .second, .val (.double d), .second, .unset, .unset] [(.int (1 : Int32)), (.int (2 : Int32))]))
        refine own_Go.st (fun _ kt => XS.icmpYes X47.here hx rfl (pc0 := 324) (pc' := 333) rfl (hb hby at_324) rfl (feq (by decide)).2 (by decide) (by decide) kt) ?_
        show own_Go p e below _ (T47.setTop (mkF m 333 #[.val (.long p0), .second, .val (.long p1), .second, .val (.long p2), .second, .val (.int p3), .val (.int (2 : Int32)), .val (.int xat), .val (.int (0 : Int32)), .val (.int xg), .val (.ref rb), .val (.ref rw), .val (.long vn0), .second, .val (.long vn1), .second, .val (.long (1 : Int64)), .second, .val (.double d), .second, .unset, .unset] []))
        refine own_Go.st (fun _ kt => XS.iload X47.here hx rfl (hb hby at_333) rfl kt) ?_
        show own_Go p e below _ (T47.setTop (mkF m 335 #[.val (.long p0), .second, .val (.long p1), .second, .val (.long p2), .second, .val (.int p3), .val (.int (2 : Int32)), .val (.int xat), .val (.int (0 : Int32)), .val (.int xg), .val (.ref rb), .val (.ref rw), .val (.long vn0), .second, .val (.long vn1), .second, .val (.long (1 : Int64)), .second, .val (.double d), .second, .unset, .unset] [(.int (2 : Int32))]))
        refine own_Go.st (fun _ kt => XS.iconst X47.here hx rfl (hb hby at_335) kt) ?_
        show own_Go p e below _ (T47.setTop (mkF m 336 #[.val (.long p0), .second, .val (.long p1), .second, .val (.long p2), .second, .val (.int p3), .val (.int (2 : Int32)), .val (.int xat), .val (.int (0 : Int32)), .val (.int xg), .val (.ref rb), .val (.ref rw), .val (.long vn0), .second, .val (.long vn1), .second, .val (.long (1 : Int64)), .second, .val (.double d), .second, .unset, .unset] [(.int (2 : Int32)), (.int (2 : Int32))]))
        refine own_Go.st (fun _ kt => XS.icmpNo X47.here hx rfl (hb hby at_336) rfl (teq rfl).2 kt) ?_
        show own_Go p e below _ (T47.setTop (mkF m 339 #[.val (.long p0), .second, .val (.long p1), .second, .val (.long p2), .second, .val (.int p3), .val (.int (2 : Int32)), .val (.int xat), .val (.int (0 : Int32)), .val (.int xg), .val (.ref rb), .val (.ref rw), .val (.long vn0), .second, .val (.long vn1), .second, .val (.long (1 : Int64)), .second, .val (.double d), .second, .unset, .unset] []))
        refine own_Go.st (fun _ kt => X47.ldc2DoubleC hx hown (mvT hZ (hw _ (List.mem_of_getElem? (i := 36) rfl))) (g := (mkF m 339 #[.val (.long p0), .second, .val (.long p1), .second, .val (.long p2), .second, .val (.int p3), .val (.int (2 : Int32)), .val (.int xat), .val (.int (0 : Int32)), .val (.int xg), .val (.ref rb), .val (.ref rw), .val (.long vn0), .second, .val (.long vn1), .second, .val (.long (1 : Int64)), .second, .val (.double d), .second, .unset, .unset] [])) rfl (hb hby at_339) _ kt) ?_
        show own_Go p e below _ (T47.setTop (mkF m 342 #[.val (.long p0), .second, .val (.long p1), .second, .val (.long p2), .second, .val (.int p3), .val (.int (2 : Int32)), .val (.int xat), .val (.int (0 : Int32)), .val (.int xg), .val (.ref rb), .val (.ref rw), .val (.long vn0), .second, .val (.long vn1), .second, .val (.long (1 : Int64)), .second, .val (.double d), .second, .unset, .unset] [(.double (4625196817309499392 : UInt64))]))
        refine own_Go.st (fun _ kt => XS.goto X47.here hx rfl (pc0 := 342) (pc' := 348) rfl (hb hby at_342) (by decide) (by decide) kt) ?_
        show own_Go p e below _ (T47.setTop (mkF m 348 #[.val (.long p0), .second, .val (.long p1), .second, .val (.long p2), .second, .val (.int p3), .val (.int (2 : Int32)), .val (.int xat), .val (.int (0 : Int32)), .val (.int xg), .val (.ref rb), .val (.ref rw), .val (.long vn0), .second, .val (.long vn1), .second, .val (.long (1 : Int64)), .second, .val (.double d), .second, .unset, .unset] [(.double (4625196817309499392 : UInt64))]))
        refine own_Go.st (fun _ kt => XS.dstore X47.here hx rfl (hb hby at_348) rfl (l' := #[.val (.long p0), .second, .val (.long p1), .second, .val (.long p2), .second, .val (.int p3), .val (.int (2 : Int32)), .val (.int xat), .val (.int (0 : Int32)), .val (.int xg), .val (.ref rb), .val (.ref rw), .val (.long vn0), .second, .val (.long vn1), .second, .val (.long (1 : Int64)), .second, .val (.double d), .second, .val (.double (4625196817309499392 : UInt64)), .second]) rfl kt) ?_
        show own_Go p e below _ (T47.setTop (mkF m 350 #[.val (.long p0), .second, .val (.long p1), .second, .val (.long p2), .second, .val (.int p3), .val (.int (2 : Int32)), .val (.int xat), .val (.int (0 : Int32)), .val (.int xg), .val (.ref rb), .val (.ref rw), .val (.long vn0), .second, .val (.long vn1), .second, .val (.long (1 : Int64)), .second, .val (.double d), .second, .val (.double (4625196817309499392 : UInt64)), .second] []))
        refine own_Go.st (fun _ kt => XS.dload X47.here hx rfl (hb hby at_350) rfl kt) ?_
        show own_Go p e below _ (T47.setTop (mkF m 352 #[.val (.long p0), .second, .val (.long p1), .second, .val (.long p2), .second, .val (.int p3), .val (.int (2 : Int32)), .val (.int xat), .val (.int (0 : Int32)), .val (.int xg), .val (.ref rb), .val (.ref rw), .val (.long vn0), .second, .val (.long vn1), .second, .val (.long (1 : Int64)), .second, .val (.double d), .second, .val (.double (4625196817309499392 : UInt64)), .second] [(.double d)]))
        refine own_Go.st (fun _ kt => XS.dload X47.here hx rfl (hb hby at_352) rfl kt) ?_
        show own_Go p e below _ (T47.setTop (mkF m 354 #[.val (.long p0), .second, .val (.long p1), .second, .val (.long p2), .second, .val (.int p3), .val (.int (2 : Int32)), .val (.int xat), .val (.int (0 : Int32)), .val (.int xg), .val (.ref rb), .val (.ref rw), .val (.long vn0), .second, .val (.long vn1), .second, .val (.long (1 : Int64)), .second, .val (.double d), .second, .val (.double (4625196817309499392 : UInt64)), .second] [(.double (4625196817309499392 : UInt64)), (.double d)]))
        have hm := own_mulP (D := 1070) hv47 own_D16 (by decide) (by rw [own_sc2]; exact own_rep _ _ (own_b2 bN0 bN1) (by decide))
        refine own_Go.st (fun _ kt => XS.dmulS X47.here hx rfl (hb hby at_354) rfl (hm.n64) rfl kt) ?_
        show own_Go p e below _ (T47.setTop (mkF m 355 #[.val (.long p0), .second, .val (.long p1), .second, .val (.long p2), .second, .val (.int p3), .val (.int (2 : Int32)), .val (.int xat), .val (.int (0 : Int32)), .val (.int xg), .val (.ref rb), .val (.ref rw), .val (.long vn0), .second, .val (.long vn1), .second, .val (.long (1 : Int64)), .second, .val (.double d), .second, .val (.double (4625196817309499392 : UInt64)), .second] [(.double (FP.dmul d (4625196817309499392 : UInt64)))]))
        refine own_Go.st (fun _ kt => XS.lload X47.here hx rfl (hb hby at_355) rfl kt) ?_
        show own_Go p e below _ (T47.setTop (mkF m 357 #[.val (.long p0), .second, .val (.long p1), .second, .val (.long p2), .second, .val (.int p3), .val (.int (2 : Int32)), .val (.int xat), .val (.int (0 : Int32)), .val (.int xg), .val (.ref rb), .val (.ref rw), .val (.long vn0), .second, .val (.long vn1), .second, .val (.long (1 : Int64)), .second, .val (.double d), .second, .val (.double (4625196817309499392 : UInt64)), .second] [(.long vn0), (.double (FP.dmul d (4625196817309499392 : UInt64)))]))
        refine own_Go.st (fun _ kt => XS.lload X47.here hx rfl (hb hby at_357) rfl kt) ?_
        show own_Go p e below _ (T47.setTop (mkF m 359 #[.val (.long p0), .second, .val (.long p1), .second, .val (.long p2), .second, .val (.int p3), .val (.int (2 : Int32)), .val (.int xat), .val (.int (0 : Int32)), .val (.int xg), .val (.ref rb), .val (.ref rw), .val (.long vn0), .second, .val (.long vn1), .second, .val (.long (1 : Int64)), .second, .val (.double d), .second, .val (.double (4625196817309499392 : UInt64)), .second] [(.long vn1), (.long vn0), (.double (FP.dmul d (4625196817309499392 : UInt64)))]))
        refine own_Go.st (fun _ kt => XS.lmul X47.here hx rfl (hb hby at_359) rfl kt) ?_
        show own_Go p e below _ (T47.setTop (mkF m 360 #[.val (.long p0), .second, .val (.long p1), .second, .val (.long p2), .second, .val (.int p3), .val (.int (2 : Int32)), .val (.int xat), .val (.int (0 : Int32)), .val (.int xg), .val (.ref rb), .val (.ref rw), .val (.long vn0), .second, .val (.long vn1), .second, .val (.long (1 : Int64)), .second, .val (.double d), .second, .val (.double (4625196817309499392 : UInt64)), .second] [(.long (vn0 * vn1)), (.double (FP.dmul d (4625196817309499392 : UInt64)))]))
        refine own_Go.st (fun _ kt => XS.lload X47.here hx rfl (hb hby at_360) rfl kt) ?_
        show own_Go p e below _ (T47.setTop (mkF m 362 #[.val (.long p0), .second, .val (.long p1), .second, .val (.long p2), .second, .val (.int p3), .val (.int (2 : Int32)), .val (.int xat), .val (.int (0 : Int32)), .val (.int xg), .val (.ref rb), .val (.ref rw), .val (.long vn0), .second, .val (.long vn1), .second, .val (.long (1 : Int64)), .second, .val (.double d), .second, .val (.double (4625196817309499392 : UInt64)), .second] [(.long (1 : Int64)), (.long (vn0 * vn1)), (.double (FP.dmul d (4625196817309499392 : UInt64)))]))
        refine own_Go.st (fun _ kt => XS.lmul X47.here hx rfl (hb hby at_362) rfl kt) ?_
        show own_Go p e below _ (T47.setTop (mkF m 363 #[.val (.long p0), .second, .val (.long p1), .second, .val (.long p2), .second, .val (.int p3), .val (.int (2 : Int32)), .val (.int xat), .val (.int (0 : Int32)), .val (.int xg), .val (.ref rb), .val (.ref rw), .val (.long vn0), .second, .val (.long vn1), .second, .val (.long (1 : Int64)), .second, .val (.double d), .second, .val (.double (4625196817309499392 : UInt64)), .second] [(.long ((vn0 * vn1) * (1 : Int64))), (.double (FP.dmul d (4625196817309499392 : UInt64)))]))
        have hp : (((vn0 * vn1) * (1 : Int64))).toInt = G0 * G1 := by rw [Int64.mul_one]; exact own_mul2 hN0 hN1 bN0 bN1
        have hl := own_l2d (a := ((vn0 * vn1) * (1 : Int64))) (by rw [hp]; exact Nat.le_of_lt (own_b2 bN0 bN1))
        rw [hp] at hl
        refine own_Go.st (fun _ kt => XS.l2dS X47.here hx rfl (hb hby at_363) rfl rfl kt) ?_
        show own_Go p e below _ (T47.setTop (mkF m 364 #[.val (.long p0), .second, .val (.long p1), .second, .val (.long p2), .second, .val (.int p3), .val (.int (2 : Int32)), .val (.int xat), .val (.int (0 : Int32)), .val (.int xg), .val (.ref rb), .val (.ref rw), .val (.long vn0), .second, .val (.long vn1), .second, .val (.long (1 : Int64)), .second, .val (.double d), .second, .val (.double (4625196817309499392 : UInt64)), .second] [(.double (FP.l2d ((vn0 * vn1) * (1 : Int64)))), (.double (FP.dmul d (4625196817309499392 : UInt64)))]))
        have heq : G0 * G1 * 16 * ((2 ^ 1070 : Nat) : Int) = G0 * G1 * ((2 ^ 1074 : Nat) : Int) := own_sc2 _
        rw [heq] at hm
        refine own_Go.st (fun _ kt => XS.dcmpS X47.here hx rfl (hb hby at_364) rfl (own_deq hm hl _) kt) ?_
        show own_Go p e below _ (T47.setTop (mkF m 365 #[.val (.long p0), .second, .val (.long p1), .second, .val (.long p2), .second, .val (.int p3), .val (.int (2 : Int32)), .val (.int xat), .val (.int (0 : Int32)), .val (.int xg), .val (.ref rb), .val (.ref rw), .val (.long vn0), .second, .val (.long vn1), .second, .val (.long (1 : Int64)), .second, .val (.double d), .second, .val (.double (4625196817309499392 : UInt64)), .second] [(.int (0 : Int32))]))
        refine own_Go.st (fun _ kt => XS.ifNo X47.here hx rfl (hb hby at_365) rfl ((if0 _ _).trans (teq rfl).2) kt) ?_
        show own_Go p e below _ (T47.setTop (mkF m 368 #[.val (.long p0), .second, .val (.long p1), .second, .val (.long p2), .second, .val (.int p3), .val (.int (2 : Int32)), .val (.int xat), .val (.int (0 : Int32)), .val (.int xg), .val (.ref rb), .val (.ref rw), .val (.long vn0), .second, .val (.long vn1), .second, .val (.long (1 : Int64)), .second, .val (.double d), .second, .val (.double (4625196817309499392 : UInt64)), .second] []))
        refine own_Go.st (fun _ kt => XS.iconst X47.here hx rfl (hb hby at_368) kt) ?_
        show own_Go p e below _ (T47.setTop (mkF m 369 #[.val (.long p0), .second, .val (.long p1), .second, .val (.long p2), .second, .val (.int p3), .val (.int (2 : Int32)), .val (.int xat), .val (.int (0 : Int32)), .val (.int xg), .val (.ref rb), .val (.ref rw), .val (.long vn0), .second, .val (.long vn1), .second, .val (.long (1 : Int64)), .second, .val (.double d), .second, .val (.double (4625196817309499392 : UInt64)), .second] [(.int (1 : Int32))]))
        refine own_Go.st (fun _ kt => XS.goto X47.here hx rfl (pc0 := 369) (pc' := 373) rfl (hb hby at_369) (by decide) (by decide) kt) ?_
        show own_Go p e below _ (T47.setTop (mkF m 373 #[.val (.long p0), .second, .val (.long p1), .second, .val (.long p2), .second, .val (.int p3), .val (.int (2 : Int32)), .val (.int xat), .val (.int (0 : Int32)), .val (.int xg), .val (.ref rb), .val (.ref rw), .val (.long vn0), .second, .val (.long vn1), .second, .val (.long (1 : Int64)), .second, .val (.double d), .second, .val (.double (4625196817309499392 : UInt64)), .second] [(.int (1 : Int32))]))
        exact own_retZ X47 hx Bd.notSynchronized Bd.returns (Or.inr rfl) (hb hby at_373) (by decide) (by decide) ⟨rfl, N47⟩
      · show own_Go p e below _ (T22.setTop (mkF m 128 #[.val (.long p0), .second, .val (.long p1), .second, .val (.long p2), .second, .val (.int p3), .val (.int (2 : Int32)), .val (.int xat), .val (.int (1 : Int32)), .val (.int xg), .val (.ref rb), .unset, .unset, .unset, .unset, .unset, .unset, .unset, .unset, .unset, .unset, .unset] [(.int (1 : Int32)), (.int (2 : Int32))]))
        obtain ⟨ig, hig, lig⟩ := own_ax ((p3.toUInt32 >>> ((5 : Int32) &&& 31).toUInt32).toInt32) 2 2 (by decide) (by decide)
        rw [hxg] at hig
        refine own_Go.st (fun _ kt => XS.icmpYes X22.here hx rfl (pc0 := 128) (pc' := 137) rfl (hb hby at_128) rfl (feq (by decide)).2 (by decide) (by decide) kt) ?_
        show own_Go p e below _ (T22.setTop (mkF m 137 #[.val (.long p0), .second, .val (.long p1), .second, .val (.long p2), .second, .val (.int p3), .val (.int (2 : Int32)), .val (.int xat), .val (.int (1 : Int32)), .val (.int xg), .val (.ref rb), .unset, .unset, .unset, .unset, .unset, .unset, .unset, .unset, .unset, .unset, .unset] []))
        refine own_Go.st (fun _ kt => XS.iload X22.here hx rfl (hb hby at_137) rfl kt) ?_
        show own_Go p e below _ (T22.setTop (mkF m 139 #[.val (.long p0), .second, .val (.long p1), .second, .val (.long p2), .second, .val (.int p3), .val (.int (2 : Int32)), .val (.int xat), .val (.int (1 : Int32)), .val (.int xg), .val (.ref rb), .unset, .unset, .unset, .unset, .unset, .unset, .unset, .unset, .unset, .unset, .unset] [(.int (2 : Int32))]))
        refine own_Go.st (fun _ kt => XS.iconst X22.here hx rfl (hb hby at_139) kt) ?_
        show own_Go p e below _ (T22.setTop (mkF m 140 #[.val (.long p0), .second, .val (.long p1), .second, .val (.long p2), .second, .val (.int p3), .val (.int (2 : Int32)), .val (.int xat), .val (.int (1 : Int32)), .val (.int xg), .val (.ref rb), .unset, .unset, .unset, .unset, .unset, .unset, .unset, .unset, .unset, .unset, .unset] [(.int (2 : Int32)), (.int (2 : Int32))]))
        refine own_Go.st (fun _ kt => XS.icmpNo X22.here hx rfl (hb hby at_140) rfl (teq rfl).2 kt) ?_
        show own_Go p e below _ (T22.setTop (mkF m 143 #[.val (.long p0), .second, .val (.long p1), .second, .val (.long p2), .second, .val (.int p3), .val (.int (2 : Int32)), .val (.int xat), .val (.int (1 : Int32)), .val (.int xg), .val (.ref rb), .unset, .unset, .unset, .unset, .unset, .unset, .unset, .unset, .unset, .unset, .unset] []))
        refine own_Go.st (fun _ kt => XS.iconst X22.here hx rfl (hb hby at_143) kt) ?_
        show own_Go p e below _ (T22.setTop (mkF m 144 #[.val (.long p0), .second, .val (.long p1), .second, .val (.long p2), .second, .val (.int p3), .val (.int (2 : Int32)), .val (.int xat), .val (.int (1 : Int32)), .val (.int xg), .val (.ref rb), .unset, .unset, .unset, .unset, .unset, .unset, .unset, .unset, .unset, .unset, .unset] [(.int (2 : Int32))]))
        obtain ⟨T48, h48, k48, X48, e48, E48, A48, st48⟩ := newP X22 hx hZ (hw _ (List.mem_of_getElem? (i := 0) rfl)) e22 (g := (mkF m 144 #[.val (.long p0), .second, .val (.long p1), .second, .val (.long p2), .second, .val (.int p3), .val (.int (2 : Int32)), .val (.int xat), .val (.int (1 : Int32)), .val (.int xg), .val (.ref rb), .unset, .unset, .unset, .unset, .unset, .unset, .unset, .unset, .unset, .unset, .unset] [(.int (2 : Int32))])) rfl (hb hby at_144) rfl (by decide) (cap := 2) (by decide) (by decide) (by decide) (by decide)
        obtain ⟨rw, g48⟩ : ∃ z, z = Array.size h22 := ⟨_, rfl⟩
        rw [← g48] at A48 st48
        refine own_Go.st st48 ?_
        have ne_rb_rw : rb ≠ rw := Nat.ne_of_lt (Nat.lt_of_lt_of_le (ab).lt (Nat.le_of_eq g48.symm))
        have n0_rw : n0 ≤ rw := Nat.le_trans zz23 (Nat.le_of_eq g48.symm)
        have zz49 : n0 ≤ Array.size h48 := Nat.le_trans zz23 E48.1
        show own_Go p e below _ (T48.setTop (mkF m 146 #[.val (.long p0), .second, .val (.long p1), .second, .val (.long p2), .second, .val (.int p3), .val (.int (2 : Int32)), .val (.int xat), .val (.int (1 : Int32)), .val (.int xg), .val (.ref rb), .unset, .unset, .unset, .unset, .unset, .unset, .unset, .unset, .unset, .unset, .unset] [(.ref rw)]))
        obtain ⟨fw, aw⟩ : ∃ fw, own_Ar Z h48 rw .double 2 fw := ⟨_, own_Ar.new A48 (by decide)⟩
        refine own_Go.st (fun _ kt => XS.goto X48.here hx rfl (pc0 := 146) (pc' := 152) rfl (hb hby at_146) (by decide) (by decide) kt) ?_
        show own_Go p e below _ (T48.setTop (mkF m 152 #[.val (.long p0), .second, .val (.long p1), .second, .val (.long p2), .second, .val (.int p3), .val (.int (2 : Int32)), .val (.int xat), .val (.int (1 : Int32)), .val (.int xg), .val (.ref rb), .unset, .unset, .unset, .unset, .unset, .unset, .unset, .unset, .unset, .unset, .unset] [(.ref rw)]))
        refine own_Go.st (fun _ kt => XS.astore X48.here hx rfl (hb hby at_152) rfl rfl (l' := #[.val (.long p0), .second, .val (.long p1), .second, .val (.long p2), .second, .val (.int p3), .val (.int (2 : Int32)), .val (.int xat), .val (.int (1 : Int32)), .val (.int xg), .val (.ref rb), .val (.ref rw), .unset, .unset, .unset, .unset, .unset, .unset, .unset, .unset, .unset, .unset]) rfl kt) ?_
        show own_Go p e below _ (T48.setTop (mkF m 154 #[.val (.long p0), .second, .val (.long p1), .second, .val (.long p2), .second, .val (.int p3), .val (.int (2 : Int32)), .val (.int xat), .val (.int (1 : Int32)), .val (.int xg), .val (.ref rb), .val (.ref rw), .unset, .unset, .unset, .unset, .unset, .unset, .unset, .unset, .unset, .unset] []))
        refine own_Go.st (fun _ kt => XS.lloadN X48.here hx rfl (hb hby at_154) rfl kt) ?_
        show own_Go p e below _ (T48.setTop (mkF m 155 #[.val (.long p0), .second, .val (.long p1), .second, .val (.long p2), .second, .val (.int p3), .val (.int (2 : Int32)), .val (.int xat), .val (.int (1 : Int32)), .val (.int xg), .val (.ref rb), .val (.ref rw), .unset, .unset, .unset, .unset, .unset, .unset, .unset, .unset, .unset, .unset] [(.long p0)]))
        refine own_Go.st (fun _ kt => XS.iload X48.here hx rfl (hb hby at_155) rfl kt) ?_
        show own_Go p e below _ (T48.setTop (mkF m 157 #[.val (.long p0), .second, .val (.long p1), .second, .val (.long p2), .second, .val (.int p3), .val (.int (2 : Int32)), .val (.int xat), .val (.int (1 : Int32)), .val (.int xg), .val (.ref rb), .val (.ref rw), .unset, .unset, .unset, .unset, .unset, .unset, .unset, .unset, .unset, .unset] [(.int (1 : Int32)), (.long p0)]))
        refine own_Go.st (fun _ kt => XS.iload X48.here hx rfl (hb hby at_157) rfl kt) ?_
        show own_Go p e below _ (T48.setTop (mkF m 159 #[.val (.long p0), .second, .val (.long p1), .second, .val (.long p2), .second, .val (.int p3), .val (.int (2 : Int32)), .val (.int xat), .val (.int (1 : Int32)), .val (.int xg), .val (.ref rb), .val (.ref rw), .unset, .unset, .unset, .unset, .unset, .unset, .unset, .unset, .unset, .unset] [(.int xg), (.int (1 : Int32)), (.long p0)]))
        refine own_Go.st (fun _ kt => XS.iconst X48.here hx rfl (hb hby at_159) kt) ?_
        show own_Go p e below _ (T48.setTop (mkF m 160 #[.val (.long p0), .second, .val (.long p1), .second, .val (.long p2), .second, .val (.int p3), .val (.int (2 : Int32)), .val (.int xat), .val (.int (1 : Int32)), .val (.int xg), .val (.ref rb), .val (.ref rw), .unset, .unset, .unset, .unset, .unset, .unset, .unset, .unset, .unset, .unset] [(.int (0 : Int32)), (.int xg), (.int (1 : Int32)), (.long p0)]))
        have hg : xg = 0 ∨ xg = 1 := by
          have : ig = 0 ∨ ig = 1 := by omega
          rcases this with rfl | rfl
          · exact Or.inl (own_lit xg 0 hig (by decide))
          · exact Or.inr (own_lit xg 1 hig (by decide))
        rcases hg with rfl | rfl
        · show own_Go p e below _ (T48.setTop (mkF m 160 #[.val (.long p0), .second, .val (.long p1), .second, .val (.long p2), .second, .val (.int p3), .val (.int (2 : Int32)), .val (.int xat), .val (.int (1 : Int32)), .val (.int (0 : Int32)), .val (.ref rb), .val (.ref rw), .unset, .unset, .unset, .unset, .unset, .unset, .unset, .unset, .unset, .unset] [(.int (0 : Int32)), (.int (0 : Int32)), (.int (1 : Int32)), (.long p0)]))
          obtain ⟨_, _, ⟨T50, L50, k50, n50⟩, -, X50, ⟨Lc50, hQ50, l50, y50, z50⟩, st50⟩ := Jvm.LawKit.callS X48 hx (y := (⟨"com/example/thicket/thicket/PackedLevelGrownVolumePinLaw", "mode", "(ZII)I"⟩ : MethodName)) hown (mvT hZ (hw _ (List.mem_of_getElem? (i := 11) rfl))) (mvT hZ (hw _ (List.mem_of_getElem? (i := 12) rfl))) (mvT hZ (hw _ (List.mem_of_getElem? (i := 13) rfl))) (mvT hZ (hw _ (List.mem_of_getElem? (i := 14) rfl))) (by decide) (backOf (W := 2) (own_mode l Z a0 hw [] (1 : Int32) (0 : Int32) (0 : Int32) h48 n0 zz49 ) hZ (hw _ (List.mem_of_getElem? (i := 14) rfl)) (hw _ (List.mem_of_getElem? (i := 13) rfl)) (by decide) (by decide)) (g := (mkF m 160 #[.val (.long p0), .second, .val (.long p1), .second, .val (.long p2), .second, .val (.int p3), .val (.int (2 : Int32)), .val (.int xat), .val (.int (1 : Int32)), .val (.int (0 : Int32)), .val (.ref rb), .val (.ref rw), .unset, .unset, .unset, .unset, .unset, .unset, .unset, .unset, .unset, .unset] [(.int (0 : Int32)), (.int (0 : Int32)), (.int (1 : Int32)), (.long p0)])) rfl (by rw [hml]; rfl) (argsL := [(.int (1 : Int32)), (.int (0 : Int32)), (.int (0 : Int32))]) (rest := [(.long p0)]) (lenOf own_pd1 rfl) rfl (by show 2 * 0 + _ ≤ _; exact Nat.le_of_eq rfl) (hb hby at_160) (fun _ _ => ⟨rfl, e48, (by decide : 2 + 0 ≤ _), (by decide : 12 + 0 ≤ _)⟩)
          dsimp only [Pt.U, Pt.locs, Pt.cells, Pt.slots] at X50 l50 y50 z50 st50 hQ50
          subst l50 y50 z50
          obtain ⟨rfl, N50q, hh50⟩ := hQ50
          have N50 := Fr.app N22 N50q
          refine own_Go.st (fun _ kt => st50 _ kt) ?_
          show own_Go p e below _ (T50.setTop (mkF m 163 #[.val (.long p0), .second, .val (.long p1), .second, .val (.long p2), .second, .val (.int p3), .val (.int (2 : Int32)), .val (.int xat), .val (.int (1 : Int32)), .val (.int (0 : Int32)), .val (.ref rb), .val (.ref rw), .unset, .unset, .unset, .unset, .unset, .unset, .unset, .unset, .unset, .unset] [(.int (if (1 : Int32) = 0 then (0 : Int32) else if (0 : Int32) = (0 : Int32) then 1 else 2)), (.long p0)]))
          rw [show (if (1 : Int32) = 0 then (0 : Int32) else if (0 : Int32) = (0 : Int32) then 1 else 2) = (1 : Int32) from (by decide)]
          show own_Go p e below _ (T50.setTop (mkF m 163 #[.val (.long p0), .second, .val (.long p1), .second, .val (.long p2), .second, .val (.int p3), .val (.int (2 : Int32)), .val (.int xat), .val (.int (1 : Int32)), .val (.int (0 : Int32)), .val (.ref rb), .val (.ref rw), .unset, .unset, .unset, .unset, .unset, .unset, .unset, .unset, .unset, .unset] [(.int (1 : Int32)), (.long p0)]))
          refine own_Go.st (fun _ kt => XS.aload X50.here hx rfl (hb hby at_163) rfl rfl kt) ?_
          show own_Go p e below _ (T50.setTop (mkF m 165 #[.val (.long p0), .second, .val (.long p1), .second, .val (.long p2), .second, .val (.int p3), .val (.int (2 : Int32)), .val (.int xat), .val (.int (1 : Int32)), .val (.int (0 : Int32)), .val (.ref rb), .val (.ref rw), .unset, .unset, .unset, .unset, .unset, .unset, .unset, .unset, .unset, .unset] [(.ref rb), (.int (1 : Int32)), (.long p0)]))
          refine own_Go.st (fun _ kt => XS.iload X50.here hx rfl (hb hby at_165) rfl kt) ?_
          show own_Go p e below _ (T50.setTop (mkF m 167 #[.val (.long p0), .second, .val (.long p1), .second, .val (.long p2), .second, .val (.int p3), .val (.int (2 : Int32)), .val (.int xat), .val (.int (1 : Int32)), .val (.int (0 : Int32)), .val (.ref rb), .val (.ref rw), .unset, .unset, .unset, .unset, .unset, .unset, .unset, .unset, .unset, .unset] [(.int xat), (.ref rb), (.int (1 : Int32)), (.long p0)]))
          refine own_Go.st (fun _ kt => XS.iload X50.here hx rfl (hb hby at_167) rfl kt) ?_
          show own_Go p e below _ (T50.setTop (mkF m 169 #[.val (.long p0), .second, .val (.long p1), .second, .val (.long p2), .second, .val (.int p3), .val (.int (2 : Int32)), .val (.int xat), .val (.int (1 : Int32)), .val (.int (0 : Int32)), .val (.ref rb), .val (.ref rw), .unset, .unset, .unset, .unset, .unset, .unset, .unset, .unset, .unset, .unset] [(.int xat), (.int xat), (.ref rb), (.int (1 : Int32)), (.long p0)]))
          refine own_Go.st (fun _ kt => XS.iload X50.here hx rfl (hb hby at_169) rfl kt) ?_
          show own_Go p e below _ (T50.setTop (mkF m 171 #[.val (.long p0), .second, .val (.long p1), .second, .val (.long p2), .second, .val (.int p3), .val (.int (2 : Int32)), .val (.int xat), .val (.int (1 : Int32)), .val (.int (0 : Int32)), .val (.ref rb), .val (.ref rw), .unset, .unset, .unset, .unset, .unset, .unset, .unset, .unset, .unset, .unset] [(.int (2 : Int32)), (.int xat), (.int xat), (.ref rb), (.int (1 : Int32)), (.long p0)]))
          refine own_Go.st (fun _ kt => XS.iadd X50.here hx rfl (hb hby at_171) rfl kt) ?_
          show own_Go p e below _ (T50.setTop (mkF m 172 #[.val (.long p0), .second, .val (.long p1), .second, .val (.long p2), .second, .val (.int p3), .val (.int (2 : Int32)), .val (.int xat), .val (.int (1 : Int32)), .val (.int (0 : Int32)), .val (.ref rb), .val (.ref rw), .unset, .unset, .unset, .unset, .unset, .unset, .unset, .unset, .unset, .unset] [(.int (xat + (2 : Int32))), (.int xat), (.ref rb), (.int (1 : Int32)), (.long p0)]))
          refine own_Go.st (fun _ kt => XS.aload X50.here hx rfl (hb hby at_172) rfl rfl kt) ?_
          show own_Go p e below _ (T50.setTop (mkF m 174 #[.val (.long p0), .second, .val (.long p1), .second, .val (.long p2), .second, .val (.int p3), .val (.int (2 : Int32)), .val (.int xat), .val (.int (1 : Int32)), .val (.int (0 : Int32)), .val (.ref rb), .val (.ref rw), .unset, .unset, .unset, .unset, .unset, .unset, .unset, .unset, .unset, .unset] [(.ref rw), (.int (xat + (2 : Int32))), (.int xat), (.ref rb), (.int (1 : Int32)), (.long p0)]))
          refine own_Go.st (fun _ kt => XS.iconst X50.here hx rfl (hb hby at_174) kt) ?_
          show own_Go p e below _ (T50.setTop (mkF m 175 #[.val (.long p0), .second, .val (.long p1), .second, .val (.long p2), .second, .val (.int p3), .val (.int (2 : Int32)), .val (.int xat), .val (.int (1 : Int32)), .val (.int (0 : Int32)), .val (.ref rb), .val (.ref rw), .unset, .unset, .unset, .unset, .unset, .unset, .unset, .unset, .unset, .unset] [(.int (0 : Int32)), (.ref rw), (.int (xat + (2 : Int32))), (.int xat), (.ref rb), (.int (1 : Int32)), (.long p0)]))
          have f51 := (ab.ext E48)
          obtain ⟨_, _, ⟨T52, L52, k52, n52⟩, -, X52, ⟨Lc52, hQ52, l52, y52, z52⟩, st52⟩ := Jvm.LawKit.callS X50 hx (y := (⟨"com/example/thicket/thicket/PackedLevelGrownVolumePinLaw", "fill", "(JI[DII[DI)J"⟩ : MethodName)) hown (mvT hZ (hw _ (List.mem_of_getElem? (i := 15) rfl))) (mvT hZ (hw _ (List.mem_of_getElem? (i := 16) rfl))) (mvT hZ (hw _ (List.mem_of_getElem? (i := 13) rfl))) (mvT hZ (hw _ (List.mem_of_getElem? (i := 17) rfl))) (by decide) (backOf (W := 0) (own_fill l Z a0 hw [] p0 (1 : Int32) rb xat (xat + (2 : Int32)) rw (0 : Int32) ia (ia + 2) 0 2 fb fw h48 n0 zz49 f51 aw ne_rb_rw n0_rb n0_rw hat (own_addn hat (e := 2) (by decide) (by omega) (by decide)) (by decide) (by omega) (by omega) (by decide) (by decide)) hZ (hw _ (List.mem_of_getElem? (i := 17) rfl)) (hw _ (List.mem_of_getElem? (i := 13) rfl)) (by decide) (by decide)) (g := (mkF m 175 #[.val (.long p0), .second, .val (.long p1), .second, .val (.long p2), .second, .val (.int p3), .val (.int (2 : Int32)), .val (.int xat), .val (.int (1 : Int32)), .val (.int (0 : Int32)), .val (.ref rb), .val (.ref rw), .unset, .unset, .unset, .unset, .unset, .unset, .unset, .unset, .unset, .unset] [(.int (0 : Int32)), (.ref rw), (.int (xat + (2 : Int32))), (.int xat), (.ref rb), (.int (1 : Int32)), (.long p0)])) rfl (by rw [hml]; rfl) (argsL := [(.long p0), (.int (1 : Int32)), (.ref rb), (.int xat), (.int (xat + (2 : Int32))), (.ref rw), (.int (0 : Int32))]) (rest := []) (lenOf own_pd2 rfl) rfl (by show 2 * 0 + _ ≤ _; exact Nat.le_of_eq rfl) (hb hby at_175) (fun _ _ => ⟨rfl, hh50, (by decide : 2 + 0 ≤ _), (by decide : 12 + 0 ≤ _)⟩)
          dsimp only [Pt.U, Pt.locs, Pt.cells, Pt.slots] at X52 l52 y52 z52 st52 hQ52
          subst l52 y52 z52
          obtain ⟨vn0, x0, y0, z0, G0, rfl, N52q, ex52, e252, e352, ab52, aw52, KF52⟩ := hQ52
          have N52 := Fr.app N50 N52q
          refine own_Go.st (fun _ kt => st52 _ kt) ?_
          have zz53 : n0 ≤ Array.size T52.heap := Nat.le_trans zz49 KF52.1
          show own_Go p e below _ (T52.setTop (mkF m 178 #[.val (.long p0), .second, .val (.long p1), .second, .val (.long p2), .second, .val (.int p3), .val (.int (2 : Int32)), .val (.int xat), .val (.int (1 : Int32)), .val (.int (0 : Int32)), .val (.ref rb), .val (.ref rw), .unset, .unset, .unset, .unset, .unset, .unset, .unset, .unset, .unset, .unset] [(.long vn0)]))
          generalize hfb1 : (fun j => if j = (ia + 2) then Value.double y0 else if j = ia then Value.double x0 else fb j) = fb1 at ab52
          generalize hfw1 : (fun j => if j = 0 then Value.double z0 else fw j) = fw1 at aw52
          have hN0 : vn0.toInt = G0 := e352 (by decide)
          refine own_Go.st (fun _ kt => XS.lstore X52.here hx rfl (hb hby at_178) rfl (l' := #[.val (.long p0), .second, .val (.long p1), .second, .val (.long p2), .second, .val (.int p3), .val (.int (2 : Int32)), .val (.int xat), .val (.int (1 : Int32)), .val (.int (0 : Int32)), .val (.ref rb), .val (.ref rw), .val (.long vn0), .second, .unset, .unset, .unset, .unset, .unset, .unset, .unset, .unset]) rfl kt) ?_
          show own_Go p e below _ (T52.setTop (mkF m 180 #[.val (.long p0), .second, .val (.long p1), .second, .val (.long p2), .second, .val (.int p3), .val (.int (2 : Int32)), .val (.int xat), .val (.int (1 : Int32)), .val (.int (0 : Int32)), .val (.ref rb), .val (.ref rw), .val (.long vn0), .second, .unset, .unset, .unset, .unset, .unset, .unset, .unset, .unset] []))
          refine own_Go.st (fun _ kt => XS.iload X52.here hx rfl (hb hby at_180) rfl kt) ?_
          show own_Go p e below _ (T52.setTop (mkF m 182 #[.val (.long p0), .second, .val (.long p1), .second, .val (.long p2), .second, .val (.int p3), .val (.int (2 : Int32)), .val (.int xat), .val (.int (1 : Int32)), .val (.int (0 : Int32)), .val (.ref rb), .val (.ref rw), .val (.long vn0), .second, .unset, .unset, .unset, .unset, .unset, .unset, .unset, .unset] [(.int (2 : Int32))]))
          refine own_Go.st (fun _ kt => XS.iconst X52.here hx rfl (hb hby at_182) kt) ?_
          show own_Go p e below _ (T52.setTop (mkF m 183 #[.val (.long p0), .second, .val (.long p1), .second, .val (.long p2), .second, .val (.int p3), .val (.int (2 : Int32)), .val (.int xat), .val (.int (1 : Int32)), .val (.int (0 : Int32)), .val (.ref rb), .val (.ref rw), .val (.long vn0), .second, .unset, .unset, .unset, .unset, .unset, .unset, .unset, .unset] [(.int (1 : Int32)), (.int (2 : Int32))]))
          refine own_Go.st (fun _ kt => XS.icmpNo X52.here hx rfl (hb hby at_183) rfl (tlt (by decide)).2.2.2 kt) ?_
          show own_Go p e below _ (T52.setTop (mkF m 186 #[.val (.long p0), .second, .val (.long p1), .second, .val (.long p2), .second, .val (.int p3), .val (.int (2 : Int32)), .val (.int xat), .val (.int (1 : Int32)), .val (.int (0 : Int32)), .val (.ref rb), .val (.ref rw), .val (.long vn0), .second, .unset, .unset, .unset, .unset, .unset, .unset, .unset, .unset] []))
          refine own_Go.st (fun _ kt => XS.lloadN X52.here hx rfl (hb hby at_186) rfl kt) ?_
          show own_Go p e below _ (T52.setTop (mkF m 187 #[.val (.long p0), .second, .val (.long p1), .second, .val (.long p2), .second, .val (.int p3), .val (.int (2 : Int32)), .val (.int xat), .val (.int (1 : Int32)), .val (.int (0 : Int32)), .val (.ref rb), .val (.ref rw), .val (.long vn0), .second, .unset, .unset, .unset, .unset, .unset, .unset, .unset, .unset] [(.long p1)]))
          refine own_Go.st (fun _ kt => XS.iload X52.here hx rfl (hb hby at_187) rfl kt) ?_
          show own_Go p e below _ (T52.setTop (mkF m 189 #[.val (.long p0), .second, .val (.long p1), .second, .val (.long p2), .second, .val (.int p3), .val (.int (2 : Int32)), .val (.int xat), .val (.int (1 : Int32)), .val (.int (0 : Int32)), .val (.ref rb), .val (.ref rw), .val (.long vn0), .second, .unset, .unset, .unset, .unset, .unset, .unset, .unset, .unset] [(.int (1 : Int32)), (.long p1)]))
          refine own_Go.st (fun _ kt => XS.iload X52.here hx rfl (hb hby at_189) rfl kt) ?_
          show own_Go p e below _ (T52.setTop (mkF m 191 #[.val (.long p0), .second, .val (.long p1), .second, .val (.long p2), .second, .val (.int p3), .val (.int (2 : Int32)), .val (.int xat), .val (.int (1 : Int32)), .val (.int (0 : Int32)), .val (.ref rb), .val (.ref rw), .val (.long vn0), .second, .unset, .unset, .unset, .unset, .unset, .unset, .unset, .unset] [(.int (0 : Int32)), (.int (1 : Int32)), (.long p1)]))
          refine own_Go.st (fun _ kt => XS.iconst X52.here hx rfl (hb hby at_191) kt) ?_
          show own_Go p e below _ (T52.setTop (mkF m 192 #[.val (.long p0), .second, .val (.long p1), .second, .val (.long p2), .second, .val (.int p3), .val (.int (2 : Int32)), .val (.int xat), .val (.int (1 : Int32)), .val (.int (0 : Int32)), .val (.ref rb), .val (.ref rw), .val (.long vn0), .second, .unset, .unset, .unset, .unset, .unset, .unset, .unset, .unset] [(.int (1 : Int32)), (.int (0 : Int32)), (.int (1 : Int32)), (.long p1)]))
          obtain ⟨_, _, ⟨T54, L54, k54, n54⟩, -, X54, ⟨Lc54, hQ54, l54, y54, z54⟩, st54⟩ := Jvm.LawKit.callS X52 hx (y := (⟨"com/example/thicket/thicket/PackedLevelGrownVolumePinLaw", "mode", "(ZII)I"⟩ : MethodName)) hown (mvT hZ (hw _ (List.mem_of_getElem? (i := 11) rfl))) (mvT hZ (hw _ (List.mem_of_getElem? (i := 12) rfl))) (mvT hZ (hw _ (List.mem_of_getElem? (i := 13) rfl))) (mvT hZ (hw _ (List.mem_of_getElem? (i := 14) rfl))) (by decide) (backOf (W := 2) (own_mode l Z a0 hw [] (1 : Int32) (0 : Int32) (1 : Int32) T52.heap n0 zz53 ) hZ (hw _ (List.mem_of_getElem? (i := 14) rfl)) (hw _ (List.mem_of_getElem? (i := 13) rfl)) (by decide) (by decide)) (g := (mkF m 192 #[.val (.long p0), .second, .val (.long p1), .second, .val (.long p2), .second, .val (.int p3), .val (.int (2 : Int32)), .val (.int xat), .val (.int (1 : Int32)), .val (.int (0 : Int32)), .val (.ref rb), .val (.ref rw), .val (.long vn0), .second, .unset, .unset, .unset, .unset, .unset, .unset, .unset, .unset] [(.int (1 : Int32)), (.int (0 : Int32)), (.int (1 : Int32)), (.long p1)])) rfl (by rw [hml]; rfl) (argsL := [(.int (1 : Int32)), (.int (0 : Int32)), (.int (1 : Int32))]) (rest := [(.long p1)]) (lenOf own_pd1 rfl) rfl (by show 2 * 0 + _ ≤ _; exact Nat.le_of_eq rfl) (hb hby at_192) (fun _ _ => ⟨rfl, rfl, (by decide : 2 + 0 ≤ _), (by decide : 12 + 0 ≤ _)⟩)
          dsimp only [Pt.U, Pt.locs, Pt.cells, Pt.slots] at X54 l54 y54 z54 st54 hQ54
          subst l54 y54 z54
          obtain ⟨rfl, N54q, hh54⟩ := hQ54
          have N54 := Fr.app N52 N54q
          refine own_Go.st (fun _ kt => st54 _ kt) ?_
          show own_Go p e below _ (T54.setTop (mkF m 195 #[.val (.long p0), .second, .val (.long p1), .second, .val (.long p2), .second, .val (.int p3), .val (.int (2 : Int32)), .val (.int xat), .val (.int (1 : Int32)), .val (.int (0 : Int32)), .val (.ref rb), .val (.ref rw), .val (.long vn0), .second, .unset, .unset, .unset, .unset, .unset, .unset, .unset, .unset] [(.int (if (1 : Int32) = 0 then (0 : Int32) else if (1 : Int32) = (0 : Int32) then 1 else 2)), (.long p1)]))
          rw [show (if (1 : Int32) = 0 then (0 : Int32) else if (1 : Int32) = (0 : Int32) then 1 else 2) = (2 : Int32) from (by decide)]
          show own_Go p e below _ (T54.setTop (mkF m 195 #[.val (.long p0), .second, .val (.long p1), .second, .val (.long p2), .second, .val (.int p3), .val (.int (2 : Int32)), .val (.int xat), .val (.int (1 : Int32)), .val (.int (0 : Int32)), .val (.ref rb), .val (.ref rw), .val (.long vn0), .second, .unset, .unset, .unset, .unset, .unset, .unset, .unset, .unset] [(.int (2 : Int32)), (.long p1)]))
          refine own_Go.st (fun _ kt => XS.aload X54.here hx rfl (hb hby at_195) rfl rfl kt) ?_
          show own_Go p e below _ (T54.setTop (mkF m 197 #[.val (.long p0), .second, .val (.long p1), .second, .val (.long p2), .second, .val (.int p3), .val (.int (2 : Int32)), .val (.int xat), .val (.int (1 : Int32)), .val (.int (0 : Int32)), .val (.ref rb), .val (.ref rw), .val (.long vn0), .second, .unset, .unset, .unset, .unset, .unset, .unset, .unset, .unset] [(.ref rb), (.int (2 : Int32)), (.long p1)]))
          refine own_Go.st (fun _ kt => XS.iload X54.here hx rfl (hb hby at_197) rfl kt) ?_
          show own_Go p e below _ (T54.setTop (mkF m 199 #[.val (.long p0), .second, .val (.long p1), .second, .val (.long p2), .second, .val (.int p3), .val (.int (2 : Int32)), .val (.int xat), .val (.int (1 : Int32)), .val (.int (0 : Int32)), .val (.ref rb), .val (.ref rw), .val (.long vn0), .second, .unset, .unset, .unset, .unset, .unset, .unset, .unset, .unset] [(.int xat), (.ref rb), (.int (2 : Int32)), (.long p1)]))
          refine own_Go.st (fun _ kt => XS.iconst X54.here hx rfl (hb hby at_199) kt) ?_
          show own_Go p e below _ (T54.setTop (mkF m 200 #[.val (.long p0), .second, .val (.long p1), .second, .val (.long p2), .second, .val (.int p3), .val (.int (2 : Int32)), .val (.int xat), .val (.int (1 : Int32)), .val (.int (0 : Int32)), .val (.ref rb), .val (.ref rw), .val (.long vn0), .second, .unset, .unset, .unset, .unset, .unset, .unset, .unset, .unset] [(.int (1 : Int32)), (.int xat), (.ref rb), (.int (2 : Int32)), (.long p1)]))
          refine own_Go.st (fun _ kt => XS.iadd X54.here hx rfl (hb hby at_200) rfl kt) ?_
          show own_Go p e below _ (T54.setTop (mkF m 201 #[.val (.long p0), .second, .val (.long p1), .second, .val (.long p2), .second, .val (.int p3), .val (.int (2 : Int32)), .val (.int xat), .val (.int (1 : Int32)), .val (.int (0 : Int32)), .val (.ref rb), .val (.ref rw), .val (.long vn0), .second, .unset, .unset, .unset, .unset, .unset, .unset, .unset, .unset] [(.int (xat + (1 : Int32))), (.ref rb), (.int (2 : Int32)), (.long p1)]))
          refine own_Go.st (fun _ kt => XS.iload X54.here hx rfl (hb hby at_201) rfl kt) ?_
          show own_Go p e below _ (T54.setTop (mkF m 203 #[.val (.long p0), .second, .val (.long p1), .second, .val (.long p2), .second, .val (.int p3), .val (.int (2 : Int32)), .val (.int xat), .val (.int (1 : Int32)), .val (.int (0 : Int32)), .val (.ref rb), .val (.ref rw), .val (.long vn0), .second, .unset, .unset, .unset, .unset, .unset, .unset, .unset, .unset] [(.int xat), (.int (xat + (1 : Int32))), (.ref rb), (.int (2 : Int32)), (.long p1)]))
          refine own_Go.st (fun _ kt => XS.iload X54.here hx rfl (hb hby at_203) rfl kt) ?_
          show own_Go p e below _ (T54.setTop (mkF m 205 #[.val (.long p0), .second, .val (.long p1), .second, .val (.long p2), .second, .val (.int p3), .val (.int (2 : Int32)), .val (.int xat), .val (.int (1 : Int32)), .val (.int (0 : Int32)), .val (.ref rb), .val (.ref rw), .val (.long vn0), .second, .unset, .unset, .unset, .unset, .unset, .unset, .unset, .unset] [(.int (2 : Int32)), (.int xat), (.int (xat + (1 : Int32))), (.ref rb), (.int (2 : Int32)), (.long p1)]))
          refine own_Go.st (fun _ kt => XS.iadd X54.here hx rfl (hb hby at_205) rfl kt) ?_
          show own_Go p e below _ (T54.setTop (mkF m 206 #[.val (.long p0), .second, .val (.long p1), .second, .val (.long p2), .second, .val (.int p3), .val (.int (2 : Int32)), .val (.int xat), .val (.int (1 : Int32)), .val (.int (0 : Int32)), .val (.ref rb), .val (.ref rw), .val (.long vn0), .second, .unset, .unset, .unset, .unset, .unset, .unset, .unset, .unset] [(.int (xat + (2 : Int32))), (.int (xat + (1 : Int32))), (.ref rb), (.int (2 : Int32)), (.long p1)]))
          refine own_Go.st (fun _ kt => XS.iconst X54.here hx rfl (hb hby at_206) kt) ?_
          show own_Go p e below _ (T54.setTop (mkF m 207 #[.val (.long p0), .second, .val (.long p1), .second, .val (.long p2), .second, .val (.int p3), .val (.int (2 : Int32)), .val (.int xat), .val (.int (1 : Int32)), .val (.int (0 : Int32)), .val (.ref rb), .val (.ref rw), .val (.long vn0), .second, .unset, .unset, .unset, .unset, .unset, .unset, .unset, .unset] [(.int (1 : Int32)), (.int (xat + (2 : Int32))), (.int (xat + (1 : Int32))), (.ref rb), (.int (2 : Int32)), (.long p1)]))
          refine own_Go.st (fun _ kt => XS.iadd X54.here hx rfl (hb hby at_207) rfl kt) ?_
          show own_Go p e below _ (T54.setTop (mkF m 208 #[.val (.long p0), .second, .val (.long p1), .second, .val (.long p2), .second, .val (.int p3), .val (.int (2 : Int32)), .val (.int xat), .val (.int (1 : Int32)), .val (.int (0 : Int32)), .val (.ref rb), .val (.ref rw), .val (.long vn0), .second, .unset, .unset, .unset, .unset, .unset, .unset, .unset, .unset] [(.int ((xat + (2 : Int32)) + (1 : Int32))), (.int (xat + (1 : Int32))), (.ref rb), (.int (2 : Int32)), (.long p1)]))
          refine own_Go.st (fun _ kt => XS.aload X54.here hx rfl (hb hby at_208) rfl rfl kt) ?_
          show own_Go p e below _ (T54.setTop (mkF m 210 #[.val (.long p0), .second, .val (.long p1), .second, .val (.long p2), .second, .val (.int p3), .val (.int (2 : Int32)), .val (.int xat), .val (.int (1 : Int32)), .val (.int (0 : Int32)), .val (.ref rb), .val (.ref rw), .val (.long vn0), .second, .unset, .unset, .unset, .unset, .unset, .unset, .unset, .unset] [(.ref rw), (.int ((xat + (2 : Int32)) + (1 : Int32))), (.int (xat + (1 : Int32))), (.ref rb), (.int (2 : Int32)), (.long p1)]))
          refine own_Go.st (fun _ kt => XS.iconst X54.here hx rfl (hb hby at_210) kt) ?_
          show own_Go p e below _ (T54.setTop (mkF m 211 #[.val (.long p0), .second, .val (.long p1), .second, .val (.long p2), .second, .val (.int p3), .val (.int (2 : Int32)), .val (.int xat), .val (.int (1 : Int32)), .val (.int (0 : Int32)), .val (.ref rb), .val (.ref rw), .val (.long vn0), .second, .unset, .unset, .unset, .unset, .unset, .unset, .unset, .unset] [(.int (1 : Int32)), (.ref rw), (.int ((xat + (2 : Int32)) + (1 : Int32))), (.int (xat + (1 : Int32))), (.ref rb), (.int (2 : Int32)), (.long p1)]))
          obtain ⟨_, _, ⟨T55, L55, k55, n55⟩, -, X55, ⟨Lc55, hQ55, l55, y55, z55⟩, st55⟩ := Jvm.LawKit.callS X54 hx (y := (⟨"com/example/thicket/thicket/PackedLevelGrownVolumePinLaw", "fill", "(JI[DII[DI)J"⟩ : MethodName)) hown (mvT hZ (hw _ (List.mem_of_getElem? (i := 15) rfl))) (mvT hZ (hw _ (List.mem_of_getElem? (i := 16) rfl))) (mvT hZ (hw _ (List.mem_of_getElem? (i := 13) rfl))) (mvT hZ (hw _ (List.mem_of_getElem? (i := 17) rfl))) (by decide) (backOf (W := 0) (own_fill l Z a0 hw [] p1 (2 : Int32) rb (xat + (1 : Int32)) ((xat + (2 : Int32)) + (1 : Int32)) rw (1 : Int32) (ia + 1) (ia + 2 + 1) 1 2 fb1 fw1 T52.heap n0 zz53 ab52 aw52 ne_rb_rw n0_rb n0_rw (own_addn hat (e := 1) (by decide) (by omega) (by decide)) (own_addn (own_addn hat (e := 2) (by decide) (by omega) (by decide)) (e := 1) (by decide) (by omega) (by decide)) (by decide) (by omega) (by omega) (by decide) (by decide)) hZ (hw _ (List.mem_of_getElem? (i := 17) rfl)) (hw _ (List.mem_of_getElem? (i := 13) rfl)) (by decide) (by decide)) (g := (mkF m 211 #[.val (.long p0), .second, .val (.long p1), .second, .val (.long p2), .second, .val (.int p3), .val (.int (2 : Int32)), .val (.int xat), .val (.int (1 : Int32)), .val (.int (0 : Int32)), .val (.ref rb), .val (.ref rw), .val (.long vn0), .second, .unset, .unset, .unset, .unset, .unset, .unset, .unset, .unset] [(.int (1 : Int32)), (.ref rw), (.int ((xat + (2 : Int32)) + (1 : Int32))), (.int (xat + (1 : Int32))), (.ref rb), (.int (2 : Int32)), (.long p1)])) rfl (by rw [hml]; rfl) (argsL := [(.long p1), (.int (2 : Int32)), (.ref rb), (.int (xat + (1 : Int32))), (.int ((xat + (2 : Int32)) + (1 : Int32))), (.ref rw), (.int (1 : Int32))]) (rest := []) (lenOf own_pd2 rfl) rfl (by show 2 * 0 + _ ≤ _; exact Nat.le_of_eq rfl) (hb hby at_211) (fun _ _ => ⟨rfl, hh54, (by decide : 2 + 0 ≤ _), (by decide : 12 + 0 ≤ _)⟩)
          dsimp only [Pt.U, Pt.locs, Pt.cells, Pt.slots] at X55 l55 y55 z55 st55 hQ55
          subst l55 y55 z55
          obtain ⟨vn1, x1, y1, z1, G1, rfl, N55q, ex55, e255, e355, ab55, aw55, KF55⟩ := hQ55
          have N55 := Fr.app N54 N55q
          refine own_Go.st (fun _ kt => st55 _ kt) ?_
          have zz56 : n0 ≤ Array.size T55.heap := Nat.le_trans zz53 KF55.1
          show own_Go p e below _ (T55.setTop (mkF m 214 #[.val (.long p0), .second, .val (.long p1), .second, .val (.long p2), .second, .val (.int p3), .val (.int (2 : Int32)), .val (.int xat), .val (.int (1 : Int32)), .val (.int (0 : Int32)), .val (.ref rb), .val (.ref rw), .val (.long vn0), .second, .unset, .unset, .unset, .unset, .unset, .unset, .unset, .unset] [(.long vn1)]))
          generalize hfb2 : (fun j => if j = (ia + 2 + 1) then Value.double y1 else if j = (ia + 1) then Value.double x1 else fb1 j) = fb2 at ab55
          generalize hfw2 : (fun j => if j = 1 then Value.double z1 else fw1 j) = fw2 at aw55
          obtain ⟨rfl, rfl⟩ := e255 rfl
          show own_Go p e below _ (T55.setTop (mkF m 214 #[.val (.long p0), .second, .val (.long p1), .second, .val (.long p2), .second, .val (.int p3), .val (.int (2 : Int32)), .val (.int xat), .val (.int (1 : Int32)), .val (.int (0 : Int32)), .val (.ref rb), .val (.ref rw), .val (.long vn0), .second, .unset, .unset, .unset, .unset, .unset, .unset, .unset, .unset] [(.long (1 : Int64))]))
          refine own_Go.st (fun _ kt => XS.goto X55.here hx rfl (pc0 := 214) (pc' := 218) rfl (hb hby at_214) (by decide) (by decide) kt) ?_
          show own_Go p e below _ (T55.setTop (mkF m 218 #[.val (.long p0), .second, .val (.long p1), .second, .val (.long p2), .second, .val (.int p3), .val (.int (2 : Int32)), .val (.int xat), .val (.int (1 : Int32)), .val (.int (0 : Int32)), .val (.ref rb), .val (.ref rw), .val (.long vn0), .second, .unset, .unset, .unset, .unset, .unset, .unset, .unset, .unset] [(.long (1 : Int64))]))
          refine own_Go.st (fun _ kt => XS.lstore X55.here hx rfl (hb hby at_218) rfl (l' := #[.val (.long p0), .second, .val (.long p1), .second, .val (.long p2), .second, .val (.int p3), .val (.int (2 : Int32)), .val (.int xat), .val (.int (1 : Int32)), .val (.int (0 : Int32)), .val (.ref rb), .val (.ref rw), .val (.long vn0), .second, .val (.long (1 : Int64)), .second, .unset, .unset, .unset, .unset, .unset, .unset]) rfl kt) ?_
          show own_Go p e below _ (T55.setTop (mkF m 220 #[.val (.long p0), .second, .val (.long p1), .second, .val (.long p2), .second, .val (.int p3), .val (.int (2 : Int32)), .val (.int xat), .val (.int (1 : Int32)), .val (.int (0 : Int32)), .val (.ref rb), .val (.ref rw), .val (.long vn0), .second, .val (.long (1 : Int64)), .second, .unset, .unset, .unset, .unset, .unset, .unset] []))
          refine own_Go.st (fun _ kt => XS.iload X55.here hx rfl (hb hby at_220) rfl kt) ?_
          show own_Go p e below _ (T55.setTop (mkF m 222 #[.val (.long p0), .second, .val (.long p1), .second, .val (.long p2), .second, .val (.int p3), .val (.int (2 : Int32)), .val (.int xat), .val (.int (1 : Int32)), .val (.int (0 : Int32)), .val (.ref rb), .val (.ref rw), .val (.long vn0), .second, .val (.long (1 : Int64)), .second, .unset, .unset, .unset, .unset, .unset, .unset] [(.int (2 : Int32))]))
          refine own_Go.st (fun _ kt => XS.iconst X55.here hx rfl (hb hby at_222) kt) ?_
          show own_Go p e below _ (T55.setTop (mkF m 223 #[.val (.long p0), .second, .val (.long p1), .second, .val (.long p2), .second, .val (.int p3), .val (.int (2 : Int32)), .val (.int xat), .val (.int (1 : Int32)), .val (.int (0 : Int32)), .val (.ref rb), .val (.ref rw), .val (.long vn0), .second, .val (.long (1 : Int64)), .second, .unset, .unset, .unset, .unset, .unset, .unset] [(.int (2 : Int32)), (.int (2 : Int32))]))
          refine own_Go.st (fun _ kt => XS.icmpYes X55.here hx rfl (pc0 := 223) (pc' := 258) rfl (hb hby at_223) rfl (flt (by decide)).2.2.2 (by decide) (by decide) kt) ?_
          show own_Go p e below _ (T55.setTop (mkF m 258 #[.val (.long p0), .second, .val (.long p1), .second, .val (.long p2), .second, .val (.int p3), .val (.int (2 : Int32)), .val (.int xat), .val (.int (1 : Int32)), .val (.int (0 : Int32)), .val (.ref rb), .val (.ref rw), .val (.long vn0), .second, .val (.long (1 : Int64)), .second, .unset, .unset, .unset, .unset, .unset, .unset] []))
          refine own_Go.st (fun _ kt => XS.lconst X55.here hx rfl (hb hby at_258) kt) ?_
          show own_Go p e below _ (T55.setTop (mkF m 259 #[.val (.long p0), .second, .val (.long p1), .second, .val (.long p2), .second, .val (.int p3), .val (.int (2 : Int32)), .val (.int xat), .val (.int (1 : Int32)), .val (.int (0 : Int32)), .val (.ref rb), .val (.ref rw), .val (.long vn0), .second, .val (.long (1 : Int64)), .second, .unset, .unset, .unset, .unset, .unset, .unset] [(.long (1 : Int64))]))
          refine own_Go.st (fun _ kt => XS.lstore X55.here hx rfl (hb hby at_259) rfl (l' := #[.val (.long p0), .second, .val (.long p1), .second, .val (.long p2), .second, .val (.int p3), .val (.int (2 : Int32)), .val (.int xat), .val (.int (1 : Int32)), .val (.int (0 : Int32)), .val (.ref rb), .val (.ref rw), .val (.long vn0), .second, .val (.long (1 : Int64)), .second, .val (.long (1 : Int64)), .second, .unset, .unset, .unset, .unset]) rfl kt) ?_
          show own_Go p e below _ (T55.setTop (mkF m 261 #[.val (.long p0), .second, .val (.long p1), .second, .val (.long p2), .second, .val (.int p3), .val (.int (2 : Int32)), .val (.int xat), .val (.int (1 : Int32)), .val (.int (0 : Int32)), .val (.ref rb), .val (.ref rw), .val (.long vn0), .second, .val (.long (1 : Int64)), .second, .val (.long (1 : Int64)), .second, .unset, .unset, .unset, .unset] []))
          refine own_Go.st (fun _ kt => XS.aload X55.here hx rfl (hb hby at_261) rfl rfl kt) ?_
          show own_Go p e below _ (T55.setTop (mkF m 263 #[.val (.long p0), .second, .val (.long p1), .second, .val (.long p2), .second, .val (.int p3), .val (.int (2 : Int32)), .val (.int xat), .val (.int (1 : Int32)), .val (.int (0 : Int32)), .val (.ref rb), .val (.ref rw), .val (.long vn0), .second, .val (.long (1 : Int64)), .second, .val (.long (1 : Int64)), .second, .unset, .unset, .unset, .unset] [(.ref rb)]))
          refine own_Go.st (fun _ kt => XS.iload X55.here hx rfl (hb hby at_263) rfl kt) ?_
          show own_Go p e below _ (T55.setTop (mkF m 265 #[.val (.long p0), .second, .val (.long p1), .second, .val (.long p2), .second, .val (.int p3), .val (.int (2 : Int32)), .val (.int xat), .val (.int (1 : Int32)), .val (.int (0 : Int32)), .val (.ref rb), .val (.ref rw), .val (.long vn0), .second, .val (.long (1 : Int64)), .second, .val (.long (1 : Int64)), .second, .unset, .unset, .unset, .unset] [(.int xat), (.ref rb)]))
          refine own_Go.st (fun _ kt => XS.aload X55.here hx rfl (hb hby at_265) rfl rfl kt) ?_
          show own_Go p e below _ (T55.setTop (mkF m 267 #[.val (.long p0), .second, .val (.long p1), .second, .val (.long p2), .second, .val (.int p3), .val (.int (2 : Int32)), .val (.int xat), .val (.int (1 : Int32)), .val (.int (0 : Int32)), .val (.ref rb), .val (.ref rw), .val (.long vn0), .second, .val (.long (1 : Int64)), .second, .val (.long (1 : Int64)), .second, .unset, .unset, .unset, .unset] [(.ref rw), (.int xat), (.ref rb)]))
          have fx0 : fb2 (ia + 0) = .double x0 := by
            subst hfb2 hfb1
            dsimp only
            repeat (first | rw [if_pos (by omega)] | rw [if_neg (by omega)])
          have fy0 : fb2 (ia + 2 + 0) = .double y0 := by
            subst hfb2 hfb1
            dsimp only
            repeat (first | rw [if_pos (by omega)] | rw [if_neg (by omega)])
          have fz0 : fw2 0 = .double z0 := by
            subst hfw2 hfw1
            rfl
          have fx1 : fb2 (ia + 1) = .double x1 := by
            subst hfb2 hfb1
            dsimp only
            repeat (first | rw [if_pos (by omega)] | rw [if_neg (by omega)])
          have fy1 : fb2 (ia + 2 + 1) = .double y1 := by
            subst hfb2 hfb1
            dsimp only
            repeat (first | rw [if_pos (by omega)] | rw [if_neg (by omega)])
          have fz1 : fw2 1 = .double z1 := by
            subst hfw2 hfw1
            rfl
          have bN0 := own_nb ex52
          have bN1 := own_nb ex55
          have r1 : own_Rep (G0 * 4 * ((2 ^ 2079 : Nat) : Int)) := own_rep2 _ _ 34 (by decide) (by omega)
          obtain ⟨_, _, ⟨T57, L57, k57, n57⟩, -, X57, ⟨Lc57, hQ57, l57, y57, z57⟩, st57⟩ := Jvm.LawKit.callS X55 hx (y := (⟨"com/example/thicket/thicket/PackedLevel", "grownVolume", "([DI[D)D"⟩ : MethodName)) hown (mvT hZ (hw _ (List.mem_of_getElem? (i := 28) rfl))) (mvT hZ (hw _ (List.mem_of_getElem? (i := 29) rfl))) (mvT hZ (hw _ (List.mem_of_getElem? (i := 30) rfl))) (mvT hZ (hw _ (List.mem_of_getElem? (i := 31) rfl))) (by decide) (backOf (W := 0) (own_gv2 l Z a0 hw [] rb xat rw ia fb2 fw2 x0 y0 z0 G0 2081 x1 y1 z1 4 1072 2079 T55.heap n0 zz56 ab55 aw55 hat la ex52 (by decide) fx0 fy0 fz0 ex55 (by decide) fx1 fy1 fz1 (by decide) r1) hZ (hw _ (List.mem_of_getElem? (i := 31) rfl)) (hw _ (List.mem_of_getElem? (i := 30) rfl)) (by decide) (by decide)) (g := (mkF m 267 #[.val (.long p0), .second, .val (.long p1), .second, .val (.long p2), .second, .val (.int p3), .val (.int (2 : Int32)), .val (.int xat), .val (.int (1 : Int32)), .val (.int (0 : Int32)), .val (.ref rb), .val (.ref rw), .val (.long vn0), .second, .val (.long (1 : Int64)), .second, .val (.long (1 : Int64)), .second, .unset, .unset, .unset, .unset] [(.ref rw), (.int xat), (.ref rb)])) rfl (by rw [hml]; rfl) (argsL := [(.ref rb), (.int xat), (.ref rw)]) (rest := []) (lenOf own_pd3 rfl) rfl (by show 2 * 0 + _ ≤ _; exact Nat.le_of_eq rfl) (hb hby at_267) (fun _ _ => ⟨rfl, rfl, (by decide : 2 + 0 ≤ _), (by decide : 12 + 0 ≤ _)⟩)
          dsimp only [Pt.U, Pt.locs, Pt.cells, Pt.slots] at X57 l57 y57 z57 st57 hQ57
          subst l57 y57 z57
          obtain ⟨d, rfl, N57q, hv57, hh57⟩ := hQ57
          have N57 := Fr.app N55 N57q
          refine own_Go.st (fun _ kt => st57 _ kt) ?_
          show own_Go p e below _ (T57.setTop (mkF m 270 #[.val (.long p0), .second, .val (.long p1), .second, .val (.long p2), .second, .val (.int p3), .val (.int (2 : Int32)), .val (.int xat), .val (.int (1 : Int32)), .val (.int (0 : Int32)), .val (.ref rb), .val (.ref rw), .val (.long vn0), .second, .val (.long (1 : Int64)), .second, .val (.long (1 : Int64)), .second, .unset, .unset, .unset, .unset] [(.double d)]))
          refine own_Go.st (fun _ kt => XS.dstore X57.here hx rfl (hb hby at_270) rfl (l' := #[.val (.long p0), .second, .val (.long p1), .second, .val (.long p2), .second, .val (.int p3), .val (.int (2 : Int32)), .val (.int xat), .val (.int (1 : Int32)), .val (.int (0 : Int32)), .val (.ref rb), .val (.ref rw), .val (.long vn0), .second, .val (.long (1 : Int64)), .second, .val (.long (1 : Int64)), .second, .val (.double d), .second, .unset, .unset]) rfl kt) ?_
          show own_Go p e below _ (T57.setTop (mkF m 272 #[.val (.long p0), .second, .val (.long p1), .second, .val (.long p2), .second, .val (.int p3), .val (.int (2 : Int32)), .val (.int xat), .val (.int (1 : Int32)), .val (.int (0 : Int32)), .val (.ref rb), .val (.ref rw), .val (.long vn0), .second, .val (.long (1 : Int64)), .second, .val (.long (1 : Int64)), .second, .val (.double d), .second, .unset, .unset] []))
          refine own_Go.st (fun _ kt => XS.iload X57.here hx rfl (hb hby at_272) rfl kt) ?_
          show own_Go p e below _ (T57.setTop (mkF m 274 #[.val (.long p0), .second, .val (.long p1), .second, .val (.long p2), .second, .val (.int p3), .val (.int (2 : Int32)), .val (.int xat), .val (.int (1 : Int32)), .val (.int (0 : Int32)), .val (.ref rb), .val (.ref rw), .val (.long vn0), .second, .val (.long (1 : Int64)), .second, .val (.long (1 : Int64)), .second, .val (.double d), .second, .unset, .unset] [(.int (1 : Int32))]))
          refine own_Go.st (fun _ kt => XS.ifNo X57.here hx rfl (hb hby at_274) rfl ((if0 _ _).trans (feq (by decide)).1) kt) ?_
          show own_Go p e below _ (T57.setTop (mkF m 277 #[.val (.long p0), .second, .val (.long p1), .second, .val (.long p2), .second, .val (.int p3), .val (.int (2 : Int32)), .val (.int xat), .val (.int (1 : Int32)), .val (.int (0 : Int32)), .val (.ref rb), .val (.ref rw), .val (.long vn0), .second, .val (.long (1 : Int64)), .second, .val (.long (1 : Int64)), .second, .val (.double d), .second, .unset, .unset] []))
          refine own_Go.st (fun _ kt => XS.iload X57.here hx rfl (hb hby at_277) rfl kt) ?_
          show own_Go p e below _ (T57.setTop (mkF m 279 #[.val (.long p0), .second, .val (.long p1), .second, .val (.long p2), .second, .val (.int p3), .val (.int (2 : Int32)), .val (.int xat), .val (.int (1 : Int32)), .val (.int (0 : Int32)), .val (.ref rb), .val (.ref rw), .val (.long vn0), .second, .val (.long (1 : Int64)), .second, .val (.long (1 : Int64)), .second, .val (.double d), .second, .unset, .unset] [(.int (0 : Int32))]))
          refine own_Go.st (fun _ kt => XS.ifNo X57.here hx rfl (hb hby at_279) rfl ((if0 _ _).trans (teq rfl).2) kt) ?_
          show own_Go p e below _ (T57.setTop (mkF m 282 #[.val (.long p0), .second, .val (.long p1), .second, .val (.long p2), .second, .val (.int p3), .val (.int (2 : Int32)), .val (.int xat), .val (.int (1 : Int32)), .val (.int (0 : Int32)), .val (.ref rb), .val (.ref rw), .val (.long vn0), .second, .val (.long (1 : Int64)), .second, .val (.long (1 : Int64)), .second, .val (.double d), .second, .unset, .unset] []))
          refine own_Go.st (fun _ kt => XS.lload X57.here hx rfl (hb hby at_282) rfl kt) ?_
          show own_Go p e below _ (T57.setTop (mkF m 284 #[.val (.long p0), .second, .val (.long p1), .second, .val (.long p2), .second, .val (.int p3), .val (.int (2 : Int32)), .val (.int xat), .val (.int (1 : Int32)), .val (.int (0 : Int32)), .val (.ref rb), .val (.ref rw), .val (.long vn0), .second, .val (.long (1 : Int64)), .second, .val (.long (1 : Int64)), .second, .val (.double d), .second, .unset, .unset] [(.long vn0)]))
          refine own_Go.st (fun _ kt => XS.goto X57.here hx rfl (pc0 := 284) (pc' := 300) rfl (hb hby at_284) (by decide) (by decide) kt) ?_
          show own_Go p e below _ (T57.setTop (mkF m 300 #[.val (.long p0), .second, .val (.long p1), .second, .val (.long p2), .second, .val (.int p3), .val (.int (2 : Int32)), .val (.int xat), .val (.int (1 : Int32)), .val (.int (0 : Int32)), .val (.ref rb), .val (.ref rw), .val (.long vn0), .second, .val (.long (1 : Int64)), .second, .val (.long (1 : Int64)), .second, .val (.double d), .second, .unset, .unset] [(.long vn0)]))
          refine own_Go.st (fun _ kt => XS.lstore X57.here hx rfl (hb hby at_300) rfl (l' := #[.val (.long p0), .second, .val (.long p1), .second, .val (.long p2), .second, .val (.int p3), .val (.int (2 : Int32)), .val (.int xat), .val (.int (1 : Int32)), .val (.int (0 : Int32)), .val (.ref rb), .val (.ref rw), .val (.long vn0), .second, .val (.long (1 : Int64)), .second, .val (.long (1 : Int64)), .second, .val (.double d), .second, .val (.long vn0), .second]) rfl kt) ?_
          show own_Go p e below _ (T57.setTop (mkF m 302 #[.val (.long p0), .second, .val (.long p1), .second, .val (.long p2), .second, .val (.int p3), .val (.int (2 : Int32)), .val (.int xat), .val (.int (1 : Int32)), .val (.int (0 : Int32)), .val (.ref rb), .val (.ref rw), .val (.long vn0), .second, .val (.long (1 : Int64)), .second, .val (.long (1 : Int64)), .second, .val (.double d), .second, .val (.long vn0), .second] []))
          refine own_Go.st (fun _ kt => XS.dload X57.here hx rfl (hb hby at_302) rfl kt) ?_
          show own_Go p e below _ (T57.setTop (mkF m 304 #[.val (.long p0), .second, .val (.long p1), .second, .val (.long p2), .second, .val (.int p3), .val (.int (2 : Int32)), .val (.int xat), .val (.int (1 : Int32)), .val (.int (0 : Int32)), .val (.ref rb), .val (.ref rw), .val (.long vn0), .second, .val (.long (1 : Int64)), .second, .val (.long (1 : Int64)), .second, .val (.double d), .second, .val (.long vn0), .second] [(.double d)]))
          refine own_Go.st (fun _ kt => XS.lload X57.here hx rfl (hb hby at_304) rfl kt) ?_
          show own_Go p e below _ (T57.setTop (mkF m 306 #[.val (.long p0), .second, .val (.long p1), .second, .val (.long p2), .second, .val (.int p3), .val (.int (2 : Int32)), .val (.int xat), .val (.int (1 : Int32)), .val (.int (0 : Int32)), .val (.ref rb), .val (.ref rw), .val (.long vn0), .second, .val (.long (1 : Int64)), .second, .val (.long (1 : Int64)), .second, .val (.double d), .second, .val (.long vn0), .second] [(.long vn0), (.double d)]))
          refine own_Go.st (fun _ kt => XS.l2dS X57.here hx rfl (hb hby at_306) rfl rfl kt) ?_
          show own_Go p e below _ (T57.setTop (mkF m 307 #[.val (.long p0), .second, .val (.long p1), .second, .val (.long p2), .second, .val (.int p3), .val (.int (2 : Int32)), .val (.int xat), .val (.int (1 : Int32)), .val (.int (0 : Int32)), .val (.ref rb), .val (.ref rw), .val (.long vn0), .second, .val (.long (1 : Int64)), .second, .val (.long (1 : Int64)), .second, .val (.double d), .second, .val (.long vn0), .second] [(.double (FP.l2d vn0)), (.double d)]))
          refine own_Go.st (fun _ kt => X57.ldc2DoubleC hx hown (mvT hZ (hw _ (List.mem_of_getElem? (i := 35) rfl))) (g := (mkF m 307 #[.val (.long p0), .second, .val (.long p1), .second, .val (.long p2), .second, .val (.int p3), .val (.int (2 : Int32)), .val (.int xat), .val (.int (1 : Int32)), .val (.int (0 : Int32)), .val (.ref rb), .val (.ref rw), .val (.long vn0), .second, .val (.long (1 : Int64)), .second, .val (.long (1 : Int64)), .second, .val (.double d), .second, .val (.long vn0), .second] [(.double (FP.l2d vn0)), (.double d)])) rfl (hb hby at_307) _ kt) ?_
          show own_Go p e below _ (T57.setTop (mkF m 310 #[.val (.long p0), .second, .val (.long p1), .second, .val (.long p2), .second, .val (.int p3), .val (.int (2 : Int32)), .val (.int xat), .val (.int (1 : Int32)), .val (.int (0 : Int32)), .val (.ref rb), .val (.ref rw), .val (.long vn0), .second, .val (.long (1 : Int64)), .second, .val (.long (1 : Int64)), .second, .val (.double d), .second, .val (.long vn0), .second] [(.double (9142307243562106880 : UInt64)), (.double (FP.l2d vn0)), (.double d)]))
          have hl := own_l2d (a := vn0) (by omega)
          rw [hN0] at hl
          have hm := own_mulP (D := 2081) hl own_D1007 (by decide) (by rw [Int.mul_one]; exact own_rep2 _ _ 36 (by decide) (by omega))
          rw [Int.mul_one] at hm
          refine own_Go.st (fun _ kt => XS.dmulS X57.here hx rfl (hb hby at_310) rfl (hm.n64) rfl kt) ?_
          show own_Go p e below _ (T57.setTop (mkF m 311 #[.val (.long p0), .second, .val (.long p1), .second, .val (.long p2), .second, .val (.int p3), .val (.int (2 : Int32)), .val (.int xat), .val (.int (1 : Int32)), .val (.int (0 : Int32)), .val (.ref rb), .val (.ref rw), .val (.long vn0), .second, .val (.long (1 : Int64)), .second, .val (.long (1 : Int64)), .second, .val (.double d), .second, .val (.long vn0), .second] [(.double (FP.dmul (FP.l2d vn0) (9142307243562106880 : UInt64))), (.double d)]))
          have heq : G0 * 4 * ((2 ^ 2079 : Nat) : Int) = G0 * ((2 ^ 2081 : Nat) : Int) := own_four2a G0
          rw [heq] at hv57
          refine own_Go.st (fun _ kt => XS.dcmpS X57.here hx rfl (hb hby at_311) rfl (own_deq hv57 hm _) kt) ?_
          show own_Go p e below _ (T57.setTop (mkF m 312 #[.val (.long p0), .second, .val (.long p1), .second, .val (.long p2), .second, .val (.int p3), .val (.int (2 : Int32)), .val (.int xat), .val (.int (1 : Int32)), .val (.int (0 : Int32)), .val (.ref rb), .val (.ref rw), .val (.long vn0), .second, .val (.long (1 : Int64)), .second, .val (.long (1 : Int64)), .second, .val (.double d), .second, .val (.long vn0), .second] [(.int (0 : Int32))]))
          refine own_Go.st (fun _ kt => XS.ifNo X57.here hx rfl (hb hby at_312) rfl ((if0 _ _).trans (teq rfl).2) kt) ?_
          show own_Go p e below _ (T57.setTop (mkF m 315 #[.val (.long p0), .second, .val (.long p1), .second, .val (.long p2), .second, .val (.int p3), .val (.int (2 : Int32)), .val (.int xat), .val (.int (1 : Int32)), .val (.int (0 : Int32)), .val (.ref rb), .val (.ref rw), .val (.long vn0), .second, .val (.long (1 : Int64)), .second, .val (.long (1 : Int64)), .second, .val (.double d), .second, .val (.long vn0), .second] []))
          refine own_Go.st (fun _ kt => XS.iconst X57.here hx rfl (hb hby at_315) kt) ?_
          show own_Go p e below _ (T57.setTop (mkF m 316 #[.val (.long p0), .second, .val (.long p1), .second, .val (.long p2), .second, .val (.int p3), .val (.int (2 : Int32)), .val (.int xat), .val (.int (1 : Int32)), .val (.int (0 : Int32)), .val (.ref rb), .val (.ref rw), .val (.long vn0), .second, .val (.long (1 : Int64)), .second, .val (.long (1 : Int64)), .second, .val (.double d), .second, .val (.long vn0), .second] [(.int (1 : Int32))]))
          refine own_Go.st (fun _ kt => XS.goto X57.here hx rfl (pc0 := 316) (pc' := 320) rfl (hb hby at_316) (by decide) (by decide) kt) ?_
          show own_Go p e below _ (T57.setTop (mkF m 320 #[.val (.long p0), .second, .val (.long p1), .second, .val (.long p2), .second, .val (.int p3), .val (.int (2 : Int32)), .val (.int xat), .val (.int (1 : Int32)), .val (.int (0 : Int32)), .val (.ref rb), .val (.ref rw), .val (.long vn0), .second, .val (.long (1 : Int64)), .second, .val (.long (1 : Int64)), .second, .val (.double d), .second, .val (.long vn0), .second] [(.int (1 : Int32))]))
          exact own_retZ X57 hx Bd.notSynchronized Bd.returns (Or.inr rfl) (hb hby at_320) (by decide) (by decide) ⟨rfl, N57⟩
        · show own_Go p e below _ (T48.setTop (mkF m 160 #[.val (.long p0), .second, .val (.long p1), .second, .val (.long p2), .second, .val (.int p3), .val (.int (2 : Int32)), .val (.int xat), .val (.int (1 : Int32)), .val (.int (1 : Int32)), .val (.ref rb), .val (.ref rw), .unset, .unset, .unset, .unset, .unset, .unset, .unset, .unset, .unset, .unset] [(.int (0 : Int32)), (.int (1 : Int32)), (.int (1 : Int32)), (.long p0)]))
          obtain ⟨_, _, ⟨T58, L58, k58, n58⟩, -, X58, ⟨Lc58, hQ58, l58, y58, z58⟩, st58⟩ := Jvm.LawKit.callS X48 hx (y := (⟨"com/example/thicket/thicket/PackedLevelGrownVolumePinLaw", "mode", "(ZII)I"⟩ : MethodName)) hown (mvT hZ (hw _ (List.mem_of_getElem? (i := 11) rfl))) (mvT hZ (hw _ (List.mem_of_getElem? (i := 12) rfl))) (mvT hZ (hw _ (List.mem_of_getElem? (i := 13) rfl))) (mvT hZ (hw _ (List.mem_of_getElem? (i := 14) rfl))) (by decide) (backOf (W := 2) (own_mode l Z a0 hw [] (1 : Int32) (1 : Int32) (0 : Int32) h48 n0 zz49 ) hZ (hw _ (List.mem_of_getElem? (i := 14) rfl)) (hw _ (List.mem_of_getElem? (i := 13) rfl)) (by decide) (by decide)) (g := (mkF m 160 #[.val (.long p0), .second, .val (.long p1), .second, .val (.long p2), .second, .val (.int p3), .val (.int (2 : Int32)), .val (.int xat), .val (.int (1 : Int32)), .val (.int (1 : Int32)), .val (.ref rb), .val (.ref rw), .unset, .unset, .unset, .unset, .unset, .unset, .unset, .unset, .unset, .unset] [(.int (0 : Int32)), (.int (1 : Int32)), (.int (1 : Int32)), (.long p0)])) rfl (by rw [hml]; rfl) (argsL := [(.int (1 : Int32)), (.int (1 : Int32)), (.int (0 : Int32))]) (rest := [(.long p0)]) (lenOf own_pd1 rfl) rfl (by show 2 * 0 + _ ≤ _; exact Nat.le_of_eq rfl) (hb hby at_160) (fun _ _ => ⟨rfl, e48, (by decide : 2 + 0 ≤ _), (by decide : 12 + 0 ≤ _)⟩)
          dsimp only [Pt.U, Pt.locs, Pt.cells, Pt.slots] at X58 l58 y58 z58 st58 hQ58
          subst l58 y58 z58
          obtain ⟨rfl, N58q, hh58⟩ := hQ58
          have N58 := Fr.app N22 N58q
          refine own_Go.st (fun _ kt => st58 _ kt) ?_
          show own_Go p e below _ (T58.setTop (mkF m 163 #[.val (.long p0), .second, .val (.long p1), .second, .val (.long p2), .second, .val (.int p3), .val (.int (2 : Int32)), .val (.int xat), .val (.int (1 : Int32)), .val (.int (1 : Int32)), .val (.ref rb), .val (.ref rw), .unset, .unset, .unset, .unset, .unset, .unset, .unset, .unset, .unset, .unset] [(.int (if (1 : Int32) = 0 then (0 : Int32) else if (0 : Int32) = (1 : Int32) then 1 else 2)), (.long p0)]))
          rw [show (if (1 : Int32) = 0 then (0 : Int32) else if (0 : Int32) = (1 : Int32) then 1 else 2) = (2 : Int32) from (by decide)]
          show own_Go p e below _ (T58.setTop (mkF m 163 #[.val (.long p0), .second, .val (.long p1), .second, .val (.long p2), .second, .val (.int p3), .val (.int (2 : Int32)), .val (.int xat), .val (.int (1 : Int32)), .val (.int (1 : Int32)), .val (.ref rb), .val (.ref rw), .unset, .unset, .unset, .unset, .unset, .unset, .unset, .unset, .unset, .unset] [(.int (2 : Int32)), (.long p0)]))
          refine own_Go.st (fun _ kt => XS.aload X58.here hx rfl (hb hby at_163) rfl rfl kt) ?_
          show own_Go p e below _ (T58.setTop (mkF m 165 #[.val (.long p0), .second, .val (.long p1), .second, .val (.long p2), .second, .val (.int p3), .val (.int (2 : Int32)), .val (.int xat), .val (.int (1 : Int32)), .val (.int (1 : Int32)), .val (.ref rb), .val (.ref rw), .unset, .unset, .unset, .unset, .unset, .unset, .unset, .unset, .unset, .unset] [(.ref rb), (.int (2 : Int32)), (.long p0)]))
          refine own_Go.st (fun _ kt => XS.iload X58.here hx rfl (hb hby at_165) rfl kt) ?_
          show own_Go p e below _ (T58.setTop (mkF m 167 #[.val (.long p0), .second, .val (.long p1), .second, .val (.long p2), .second, .val (.int p3), .val (.int (2 : Int32)), .val (.int xat), .val (.int (1 : Int32)), .val (.int (1 : Int32)), .val (.ref rb), .val (.ref rw), .unset, .unset, .unset, .unset, .unset, .unset, .unset, .unset, .unset, .unset] [(.int xat), (.ref rb), (.int (2 : Int32)), (.long p0)]))
          refine own_Go.st (fun _ kt => XS.iload X58.here hx rfl (hb hby at_167) rfl kt) ?_
          show own_Go p e below _ (T58.setTop (mkF m 169 #[.val (.long p0), .second, .val (.long p1), .second, .val (.long p2), .second, .val (.int p3), .val (.int (2 : Int32)), .val (.int xat), .val (.int (1 : Int32)), .val (.int (1 : Int32)), .val (.ref rb), .val (.ref rw), .unset, .unset, .unset, .unset, .unset, .unset, .unset, .unset, .unset, .unset] [(.int xat), (.int xat), (.ref rb), (.int (2 : Int32)), (.long p0)]))
          refine own_Go.st (fun _ kt => XS.iload X58.here hx rfl (hb hby at_169) rfl kt) ?_
          show own_Go p e below _ (T58.setTop (mkF m 171 #[.val (.long p0), .second, .val (.long p1), .second, .val (.long p2), .second, .val (.int p3), .val (.int (2 : Int32)), .val (.int xat), .val (.int (1 : Int32)), .val (.int (1 : Int32)), .val (.ref rb), .val (.ref rw), .unset, .unset, .unset, .unset, .unset, .unset, .unset, .unset, .unset, .unset] [(.int (2 : Int32)), (.int xat), (.int xat), (.ref rb), (.int (2 : Int32)), (.long p0)]))
          refine own_Go.st (fun _ kt => XS.iadd X58.here hx rfl (hb hby at_171) rfl kt) ?_
          show own_Go p e below _ (T58.setTop (mkF m 172 #[.val (.long p0), .second, .val (.long p1), .second, .val (.long p2), .second, .val (.int p3), .val (.int (2 : Int32)), .val (.int xat), .val (.int (1 : Int32)), .val (.int (1 : Int32)), .val (.ref rb), .val (.ref rw), .unset, .unset, .unset, .unset, .unset, .unset, .unset, .unset, .unset, .unset] [(.int (xat + (2 : Int32))), (.int xat), (.ref rb), (.int (2 : Int32)), (.long p0)]))
          refine own_Go.st (fun _ kt => XS.aload X58.here hx rfl (hb hby at_172) rfl rfl kt) ?_
          show own_Go p e below _ (T58.setTop (mkF m 174 #[.val (.long p0), .second, .val (.long p1), .second, .val (.long p2), .second, .val (.int p3), .val (.int (2 : Int32)), .val (.int xat), .val (.int (1 : Int32)), .val (.int (1 : Int32)), .val (.ref rb), .val (.ref rw), .unset, .unset, .unset, .unset, .unset, .unset, .unset, .unset, .unset, .unset] [(.ref rw), (.int (xat + (2 : Int32))), (.int xat), (.ref rb), (.int (2 : Int32)), (.long p0)]))
          refine own_Go.st (fun _ kt => XS.iconst X58.here hx rfl (hb hby at_174) kt) ?_
          show own_Go p e below _ (T58.setTop (mkF m 175 #[.val (.long p0), .second, .val (.long p1), .second, .val (.long p2), .second, .val (.int p3), .val (.int (2 : Int32)), .val (.int xat), .val (.int (1 : Int32)), .val (.int (1 : Int32)), .val (.ref rb), .val (.ref rw), .unset, .unset, .unset, .unset, .unset, .unset, .unset, .unset, .unset, .unset] [(.int (0 : Int32)), (.ref rw), (.int (xat + (2 : Int32))), (.int xat), (.ref rb), (.int (2 : Int32)), (.long p0)]))
          have f59 := (ab.ext E48)
          obtain ⟨_, _, ⟨T60, L60, k60, n60⟩, -, X60, ⟨Lc60, hQ60, l60, y60, z60⟩, st60⟩ := Jvm.LawKit.callS X58 hx (y := (⟨"com/example/thicket/thicket/PackedLevelGrownVolumePinLaw", "fill", "(JI[DII[DI)J"⟩ : MethodName)) hown (mvT hZ (hw _ (List.mem_of_getElem? (i := 15) rfl))) (mvT hZ (hw _ (List.mem_of_getElem? (i := 16) rfl))) (mvT hZ (hw _ (List.mem_of_getElem? (i := 13) rfl))) (mvT hZ (hw _ (List.mem_of_getElem? (i := 17) rfl))) (by decide) (backOf (W := 0) (own_fill l Z a0 hw [] p0 (2 : Int32) rb xat (xat + (2 : Int32)) rw (0 : Int32) ia (ia + 2) 0 2 fb fw h48 n0 zz49 f59 aw ne_rb_rw n0_rb n0_rw hat (own_addn hat (e := 2) (by decide) (by omega) (by decide)) (by decide) (by omega) (by omega) (by decide) (by decide)) hZ (hw _ (List.mem_of_getElem? (i := 17) rfl)) (hw _ (List.mem_of_getElem? (i := 13) rfl)) (by decide) (by decide)) (g := (mkF m 175 #[.val (.long p0), .second, .val (.long p1), .second, .val (.long p2), .second, .val (.int p3), .val (.int (2 : Int32)), .val (.int xat), .val (.int (1 : Int32)), .val (.int (1 : Int32)), .val (.ref rb), .val (.ref rw), .unset, .unset, .unset, .unset, .unset, .unset, .unset, .unset, .unset, .unset] [(.int (0 : Int32)), (.ref rw), (.int (xat + (2 : Int32))), (.int xat), (.ref rb), (.int (2 : Int32)), (.long p0)])) rfl (by rw [hml]; rfl) (argsL := [(.long p0), (.int (2 : Int32)), (.ref rb), (.int xat), (.int (xat + (2 : Int32))), (.ref rw), (.int (0 : Int32))]) (rest := []) (lenOf own_pd2 rfl) rfl (by show 2 * 0 + _ ≤ _; exact Nat.le_of_eq rfl) (hb hby at_175) (fun _ _ => ⟨rfl, hh58, (by decide : 2 + 0 ≤ _), (by decide : 12 + 0 ≤ _)⟩)
          dsimp only [Pt.U, Pt.locs, Pt.cells, Pt.slots] at X60 l60 y60 z60 st60 hQ60
          subst l60 y60 z60
          obtain ⟨vn0, x0, y0, z0, G0, rfl, N60q, ex60, e260, e360, ab60, aw60, KF60⟩ := hQ60
          have N60 := Fr.app N58 N60q
          refine own_Go.st (fun _ kt => st60 _ kt) ?_
          have zz61 : n0 ≤ Array.size T60.heap := Nat.le_trans zz49 KF60.1
          show own_Go p e below _ (T60.setTop (mkF m 178 #[.val (.long p0), .second, .val (.long p1), .second, .val (.long p2), .second, .val (.int p3), .val (.int (2 : Int32)), .val (.int xat), .val (.int (1 : Int32)), .val (.int (1 : Int32)), .val (.ref rb), .val (.ref rw), .unset, .unset, .unset, .unset, .unset, .unset, .unset, .unset, .unset, .unset] [(.long vn0)]))
          generalize hfb1 : (fun j => if j = (ia + 2) then Value.double y0 else if j = ia then Value.double x0 else fb j) = fb1 at ab60
          generalize hfw1 : (fun j => if j = 0 then Value.double z0 else fw j) = fw1 at aw60
          obtain ⟨rfl, rfl⟩ := e260 rfl
          show own_Go p e below _ (T60.setTop (mkF m 178 #[.val (.long p0), .second, .val (.long p1), .second, .val (.long p2), .second, .val (.int p3), .val (.int (2 : Int32)), .val (.int xat), .val (.int (1 : Int32)), .val (.int (1 : Int32)), .val (.ref rb), .val (.ref rw), .unset, .unset, .unset, .unset, .unset, .unset, .unset, .unset, .unset, .unset] [(.long (1 : Int64))]))
          refine own_Go.st (fun _ kt => XS.lstore X60.here hx rfl (hb hby at_178) rfl (l' := #[.val (.long p0), .second, .val (.long p1), .second, .val (.long p2), .second, .val (.int p3), .val (.int (2 : Int32)), .val (.int xat), .val (.int (1 : Int32)), .val (.int (1 : Int32)), .val (.ref rb), .val (.ref rw), .val (.long (1 : Int64)), .second, .unset, .unset, .unset, .unset, .unset, .unset, .unset, .unset]) rfl kt) ?_
          show own_Go p e below _ (T60.setTop (mkF m 180 #[.val (.long p0), .second, .val (.long p1), .second, .val (.long p2), .second, .val (.int p3), .val (.int (2 : Int32)), .val (.int xat), .val (.int (1 : Int32)), .val (.int (1 : Int32)), .val (.ref rb), .val (.ref rw), .val (.long (1 : Int64)), .second, .unset, .unset, .unset, .unset, .unset, .unset, .unset, .unset] []))
          refine own_Go.st (fun _ kt => XS.iload X60.here hx rfl (hb hby at_180) rfl kt) ?_
          show own_Go p e below _ (T60.setTop (mkF m 182 #[.val (.long p0), .second, .val (.long p1), .second, .val (.long p2), .second, .val (.int p3), .val (.int (2 : Int32)), .val (.int xat), .val (.int (1 : Int32)), .val (.int (1 : Int32)), .val (.ref rb), .val (.ref rw), .val (.long (1 : Int64)), .second, .unset, .unset, .unset, .unset, .unset, .unset, .unset, .unset] [(.int (2 : Int32))]))
          refine own_Go.st (fun _ kt => XS.iconst X60.here hx rfl (hb hby at_182) kt) ?_
          show own_Go p e below _ (T60.setTop (mkF m 183 #[.val (.long p0), .second, .val (.long p1), .second, .val (.long p2), .second, .val (.int p3), .val (.int (2 : Int32)), .val (.int xat), .val (.int (1 : Int32)), .val (.int (1 : Int32)), .val (.ref rb), .val (.ref rw), .val (.long (1 : Int64)), .second, .unset, .unset, .unset, .unset, .unset, .unset, .unset, .unset] [(.int (1 : Int32)), (.int (2 : Int32))]))
          refine own_Go.st (fun _ kt => XS.icmpNo X60.here hx rfl (hb hby at_183) rfl (tlt (by decide)).2.2.2 kt) ?_
          show own_Go p e below _ (T60.setTop (mkF m 186 #[.val (.long p0), .second, .val (.long p1), .second, .val (.long p2), .second, .val (.int p3), .val (.int (2 : Int32)), .val (.int xat), .val (.int (1 : Int32)), .val (.int (1 : Int32)), .val (.ref rb), .val (.ref rw), .val (.long (1 : Int64)), .second, .unset, .unset, .unset, .unset, .unset, .unset, .unset, .unset] []))
          refine own_Go.st (fun _ kt => XS.lloadN X60.here hx rfl (hb hby at_186) rfl kt) ?_
          show own_Go p e below _ (T60.setTop (mkF m 187 #[.val (.long p0), .second, .val (.long p1), .second, .val (.long p2), .second, .val (.int p3), .val (.int (2 : Int32)), .val (.int xat), .val (.int (1 : Int32)), .val (.int (1 : Int32)), .val (.ref rb), .val (.ref rw), .val (.long (1 : Int64)), .second, .unset, .unset, .unset, .unset, .unset, .unset, .unset, .unset] [(.long p1)]))
          refine own_Go.st (fun _ kt => XS.iload X60.here hx rfl (hb hby at_187) rfl kt) ?_
          show own_Go p e below _ (T60.setTop (mkF m 189 #[.val (.long p0), .second, .val (.long p1), .second, .val (.long p2), .second, .val (.int p3), .val (.int (2 : Int32)), .val (.int xat), .val (.int (1 : Int32)), .val (.int (1 : Int32)), .val (.ref rb), .val (.ref rw), .val (.long (1 : Int64)), .second, .unset, .unset, .unset, .unset, .unset, .unset, .unset, .unset] [(.int (1 : Int32)), (.long p1)]))
          refine own_Go.st (fun _ kt => XS.iload X60.here hx rfl (hb hby at_189) rfl kt) ?_
          show own_Go p e below _ (T60.setTop (mkF m 191 #[.val (.long p0), .second, .val (.long p1), .second, .val (.long p2), .second, .val (.int p3), .val (.int (2 : Int32)), .val (.int xat), .val (.int (1 : Int32)), .val (.int (1 : Int32)), .val (.ref rb), .val (.ref rw), .val (.long (1 : Int64)), .second, .unset, .unset, .unset, .unset, .unset, .unset, .unset, .unset] [(.int (1 : Int32)), (.int (1 : Int32)), (.long p1)]))
          refine own_Go.st (fun _ kt => XS.iconst X60.here hx rfl (hb hby at_191) kt) ?_
          show own_Go p e below _ (T60.setTop (mkF m 192 #[.val (.long p0), .second, .val (.long p1), .second, .val (.long p2), .second, .val (.int p3), .val (.int (2 : Int32)), .val (.int xat), .val (.int (1 : Int32)), .val (.int (1 : Int32)), .val (.ref rb), .val (.ref rw), .val (.long (1 : Int64)), .second, .unset, .unset, .unset, .unset, .unset, .unset, .unset, .unset] [(.int (1 : Int32)), (.int (1 : Int32)), (.int (1 : Int32)), (.long p1)]))
          obtain ⟨_, _, ⟨T62, L62, k62, n62⟩, -, X62, ⟨Lc62, hQ62, l62, y62, z62⟩, st62⟩ := Jvm.LawKit.callS X60 hx (y := (⟨"com/example/thicket/thicket/PackedLevelGrownVolumePinLaw", "mode", "(ZII)I"⟩ : MethodName)) hown (mvT hZ (hw _ (List.mem_of_getElem? (i := 11) rfl))) (mvT hZ (hw _ (List.mem_of_getElem? (i := 12) rfl))) (mvT hZ (hw _ (List.mem_of_getElem? (i := 13) rfl))) (mvT hZ (hw _ (List.mem_of_getElem? (i := 14) rfl))) (by decide) (backOf (W := 2) (own_mode l Z a0 hw [] (1 : Int32) (1 : Int32) (1 : Int32) T60.heap n0 zz61 ) hZ (hw _ (List.mem_of_getElem? (i := 14) rfl)) (hw _ (List.mem_of_getElem? (i := 13) rfl)) (by decide) (by decide)) (g := (mkF m 192 #[.val (.long p0), .second, .val (.long p1), .second, .val (.long p2), .second, .val (.int p3), .val (.int (2 : Int32)), .val (.int xat), .val (.int (1 : Int32)), .val (.int (1 : Int32)), .val (.ref rb), .val (.ref rw), .val (.long (1 : Int64)), .second, .unset, .unset, .unset, .unset, .unset, .unset, .unset, .unset] [(.int (1 : Int32)), (.int (1 : Int32)), (.int (1 : Int32)), (.long p1)])) rfl (by rw [hml]; rfl) (argsL := [(.int (1 : Int32)), (.int (1 : Int32)), (.int (1 : Int32))]) (rest := [(.long p1)]) (lenOf own_pd1 rfl) rfl (by show 2 * 0 + _ ≤ _; exact Nat.le_of_eq rfl) (hb hby at_192) (fun _ _ => ⟨rfl, rfl, (by decide : 2 + 0 ≤ _), (by decide : 12 + 0 ≤ _)⟩)
          dsimp only [Pt.U, Pt.locs, Pt.cells, Pt.slots] at X62 l62 y62 z62 st62 hQ62
          subst l62 y62 z62
          obtain ⟨rfl, N62q, hh62⟩ := hQ62
          have N62 := Fr.app N60 N62q
          refine own_Go.st (fun _ kt => st62 _ kt) ?_
          show own_Go p e below _ (T62.setTop (mkF m 195 #[.val (.long p0), .second, .val (.long p1), .second, .val (.long p2), .second, .val (.int p3), .val (.int (2 : Int32)), .val (.int xat), .val (.int (1 : Int32)), .val (.int (1 : Int32)), .val (.ref rb), .val (.ref rw), .val (.long (1 : Int64)), .second, .unset, .unset, .unset, .unset, .unset, .unset, .unset, .unset] [(.int (if (1 : Int32) = 0 then (0 : Int32) else if (1 : Int32) = (1 : Int32) then 1 else 2)), (.long p1)]))
          rw [show (if (1 : Int32) = 0 then (0 : Int32) else if (1 : Int32) = (1 : Int32) then 1 else 2) = (1 : Int32) from (by decide)]
          show own_Go p e below _ (T62.setTop (mkF m 195 #[.val (.long p0), .second, .val (.long p1), .second, .val (.long p2), .second, .val (.int p3), .val (.int (2 : Int32)), .val (.int xat), .val (.int (1 : Int32)), .val (.int (1 : Int32)), .val (.ref rb), .val (.ref rw), .val (.long (1 : Int64)), .second, .unset, .unset, .unset, .unset, .unset, .unset, .unset, .unset] [(.int (1 : Int32)), (.long p1)]))
          refine own_Go.st (fun _ kt => XS.aload X62.here hx rfl (hb hby at_195) rfl rfl kt) ?_
          show own_Go p e below _ (T62.setTop (mkF m 197 #[.val (.long p0), .second, .val (.long p1), .second, .val (.long p2), .second, .val (.int p3), .val (.int (2 : Int32)), .val (.int xat), .val (.int (1 : Int32)), .val (.int (1 : Int32)), .val (.ref rb), .val (.ref rw), .val (.long (1 : Int64)), .second, .unset, .unset, .unset, .unset, .unset, .unset, .unset, .unset] [(.ref rb), (.int (1 : Int32)), (.long p1)]))
          refine own_Go.st (fun _ kt => XS.iload X62.here hx rfl (hb hby at_197) rfl kt) ?_
          show own_Go p e below _ (T62.setTop (mkF m 199 #[.val (.long p0), .second, .val (.long p1), .second, .val (.long p2), .second, .val (.int p3), .val (.int (2 : Int32)), .val (.int xat), .val (.int (1 : Int32)), .val (.int (1 : Int32)), .val (.ref rb), .val (.ref rw), .val (.long (1 : Int64)), .second, .unset, .unset, .unset, .unset, .unset, .unset, .unset, .unset] [(.int xat), (.ref rb), (.int (1 : Int32)), (.long p1)]))
          refine own_Go.st (fun _ kt => XS.iconst X62.here hx rfl (hb hby at_199) kt) ?_
          show own_Go p e below _ (T62.setTop (mkF m 200 #[.val (.long p0), .second, .val (.long p1), .second, .val (.long p2), .second, .val (.int p3), .val (.int (2 : Int32)), .val (.int xat), .val (.int (1 : Int32)), .val (.int (1 : Int32)), .val (.ref rb), .val (.ref rw), .val (.long (1 : Int64)), .second, .unset, .unset, .unset, .unset, .unset, .unset, .unset, .unset] [(.int (1 : Int32)), (.int xat), (.ref rb), (.int (1 : Int32)), (.long p1)]))
          refine own_Go.st (fun _ kt => XS.iadd X62.here hx rfl (hb hby at_200) rfl kt) ?_
          show own_Go p e below _ (T62.setTop (mkF m 201 #[.val (.long p0), .second, .val (.long p1), .second, .val (.long p2), .second, .val (.int p3), .val (.int (2 : Int32)), .val (.int xat), .val (.int (1 : Int32)), .val (.int (1 : Int32)), .val (.ref rb), .val (.ref rw), .val (.long (1 : Int64)), .second, .unset, .unset, .unset, .unset, .unset, .unset, .unset, .unset] [(.int (xat + (1 : Int32))), (.ref rb), (.int (1 : Int32)), (.long p1)]))
          refine own_Go.st (fun _ kt => XS.iload X62.here hx rfl (hb hby at_201) rfl kt) ?_
          show own_Go p e below _ (T62.setTop (mkF m 203 #[.val (.long p0), .second, .val (.long p1), .second, .val (.long p2), .second, .val (.int p3), .val (.int (2 : Int32)), .val (.int xat), .val (.int (1 : Int32)), .val (.int (1 : Int32)), .val (.ref rb), .val (.ref rw), .val (.long (1 : Int64)), .second, .unset, .unset, .unset, .unset, .unset, .unset, .unset, .unset] [(.int xat), (.int (xat + (1 : Int32))), (.ref rb), (.int (1 : Int32)), (.long p1)]))
          refine own_Go.st (fun _ kt => XS.iload X62.here hx rfl (hb hby at_203) rfl kt) ?_
          show own_Go p e below _ (T62.setTop (mkF m 205 #[.val (.long p0), .second, .val (.long p1), .second, .val (.long p2), .second, .val (.int p3), .val (.int (2 : Int32)), .val (.int xat), .val (.int (1 : Int32)), .val (.int (1 : Int32)), .val (.ref rb), .val (.ref rw), .val (.long (1 : Int64)), .second, .unset, .unset, .unset, .unset, .unset, .unset, .unset, .unset] [(.int (2 : Int32)), (.int xat), (.int (xat + (1 : Int32))), (.ref rb), (.int (1 : Int32)), (.long p1)]))
          refine own_Go.st (fun _ kt => XS.iadd X62.here hx rfl (hb hby at_205) rfl kt) ?_
          show own_Go p e below _ (T62.setTop (mkF m 206 #[.val (.long p0), .second, .val (.long p1), .second, .val (.long p2), .second, .val (.int p3), .val (.int (2 : Int32)), .val (.int xat), .val (.int (1 : Int32)), .val (.int (1 : Int32)), .val (.ref rb), .val (.ref rw), .val (.long (1 : Int64)), .second, .unset, .unset, .unset, .unset, .unset, .unset, .unset, .unset] [(.int (xat + (2 : Int32))), (.int (xat + (1 : Int32))), (.ref rb), (.int (1 : Int32)), (.long p1)]))
          refine own_Go.st (fun _ kt => XS.iconst X62.here hx rfl (hb hby at_206) kt) ?_
          show own_Go p e below _ (T62.setTop (mkF m 207 #[.val (.long p0), .second, .val (.long p1), .second, .val (.long p2), .second, .val (.int p3), .val (.int (2 : Int32)), .val (.int xat), .val (.int (1 : Int32)), .val (.int (1 : Int32)), .val (.ref rb), .val (.ref rw), .val (.long (1 : Int64)), .second, .unset, .unset, .unset, .unset, .unset, .unset, .unset, .unset] [(.int (1 : Int32)), (.int (xat + (2 : Int32))), (.int (xat + (1 : Int32))), (.ref rb), (.int (1 : Int32)), (.long p1)]))
          refine own_Go.st (fun _ kt => XS.iadd X62.here hx rfl (hb hby at_207) rfl kt) ?_
          show own_Go p e below _ (T62.setTop (mkF m 208 #[.val (.long p0), .second, .val (.long p1), .second, .val (.long p2), .second, .val (.int p3), .val (.int (2 : Int32)), .val (.int xat), .val (.int (1 : Int32)), .val (.int (1 : Int32)), .val (.ref rb), .val (.ref rw), .val (.long (1 : Int64)), .second, .unset, .unset, .unset, .unset, .unset, .unset, .unset, .unset] [(.int ((xat + (2 : Int32)) + (1 : Int32))), (.int (xat + (1 : Int32))), (.ref rb), (.int (1 : Int32)), (.long p1)]))
          refine own_Go.st (fun _ kt => XS.aload X62.here hx rfl (hb hby at_208) rfl rfl kt) ?_
          show own_Go p e below _ (T62.setTop (mkF m 210 #[.val (.long p0), .second, .val (.long p1), .second, .val (.long p2), .second, .val (.int p3), .val (.int (2 : Int32)), .val (.int xat), .val (.int (1 : Int32)), .val (.int (1 : Int32)), .val (.ref rb), .val (.ref rw), .val (.long (1 : Int64)), .second, .unset, .unset, .unset, .unset, .unset, .unset, .unset, .unset] [(.ref rw), (.int ((xat + (2 : Int32)) + (1 : Int32))), (.int (xat + (1 : Int32))), (.ref rb), (.int (1 : Int32)), (.long p1)]))
          refine own_Go.st (fun _ kt => XS.iconst X62.here hx rfl (hb hby at_210) kt) ?_
          show own_Go p e below _ (T62.setTop (mkF m 211 #[.val (.long p0), .second, .val (.long p1), .second, .val (.long p2), .second, .val (.int p3), .val (.int (2 : Int32)), .val (.int xat), .val (.int (1 : Int32)), .val (.int (1 : Int32)), .val (.ref rb), .val (.ref rw), .val (.long (1 : Int64)), .second, .unset, .unset, .unset, .unset, .unset, .unset, .unset, .unset] [(.int (1 : Int32)), (.ref rw), (.int ((xat + (2 : Int32)) + (1 : Int32))), (.int (xat + (1 : Int32))), (.ref rb), (.int (1 : Int32)), (.long p1)]))
          obtain ⟨_, _, ⟨T63, L63, k63, n63⟩, -, X63, ⟨Lc63, hQ63, l63, y63, z63⟩, st63⟩ := Jvm.LawKit.callS X62 hx (y := (⟨"com/example/thicket/thicket/PackedLevelGrownVolumePinLaw", "fill", "(JI[DII[DI)J"⟩ : MethodName)) hown (mvT hZ (hw _ (List.mem_of_getElem? (i := 15) rfl))) (mvT hZ (hw _ (List.mem_of_getElem? (i := 16) rfl))) (mvT hZ (hw _ (List.mem_of_getElem? (i := 13) rfl))) (mvT hZ (hw _ (List.mem_of_getElem? (i := 17) rfl))) (by decide) (backOf (W := 0) (own_fill l Z a0 hw [] p1 (1 : Int32) rb (xat + (1 : Int32)) ((xat + (2 : Int32)) + (1 : Int32)) rw (1 : Int32) (ia + 1) (ia + 2 + 1) 1 2 fb1 fw1 T60.heap n0 zz61 ab60 aw60 ne_rb_rw n0_rb n0_rw (own_addn hat (e := 1) (by decide) (by omega) (by decide)) (own_addn (own_addn hat (e := 2) (by decide) (by omega) (by decide)) (e := 1) (by decide) (by omega) (by decide)) (by decide) (by omega) (by omega) (by decide) (by decide)) hZ (hw _ (List.mem_of_getElem? (i := 17) rfl)) (hw _ (List.mem_of_getElem? (i := 13) rfl)) (by decide) (by decide)) (g := (mkF m 211 #[.val (.long p0), .second, .val (.long p1), .second, .val (.long p2), .second, .val (.int p3), .val (.int (2 : Int32)), .val (.int xat), .val (.int (1 : Int32)), .val (.int (1 : Int32)), .val (.ref rb), .val (.ref rw), .val (.long (1 : Int64)), .second, .unset, .unset, .unset, .unset, .unset, .unset, .unset, .unset] [(.int (1 : Int32)), (.ref rw), (.int ((xat + (2 : Int32)) + (1 : Int32))), (.int (xat + (1 : Int32))), (.ref rb), (.int (1 : Int32)), (.long p1)])) rfl (by rw [hml]; rfl) (argsL := [(.long p1), (.int (1 : Int32)), (.ref rb), (.int (xat + (1 : Int32))), (.int ((xat + (2 : Int32)) + (1 : Int32))), (.ref rw), (.int (1 : Int32))]) (rest := []) (lenOf own_pd2 rfl) rfl (by show 2 * 0 + _ ≤ _; exact Nat.le_of_eq rfl) (hb hby at_211) (fun _ _ => ⟨rfl, hh62, (by decide : 2 + 0 ≤ _), (by decide : 12 + 0 ≤ _)⟩)
          dsimp only [Pt.U, Pt.locs, Pt.cells, Pt.slots] at X63 l63 y63 z63 st63 hQ63
          subst l63 y63 z63
          obtain ⟨vn1, x1, y1, z1, G1, rfl, N63q, ex63, e263, e363, ab63, aw63, KF63⟩ := hQ63
          have N63 := Fr.app N62 N63q
          refine own_Go.st (fun _ kt => st63 _ kt) ?_
          have zz64 : n0 ≤ Array.size T63.heap := Nat.le_trans zz61 KF63.1
          show own_Go p e below _ (T63.setTop (mkF m 214 #[.val (.long p0), .second, .val (.long p1), .second, .val (.long p2), .second, .val (.int p3), .val (.int (2 : Int32)), .val (.int xat), .val (.int (1 : Int32)), .val (.int (1 : Int32)), .val (.ref rb), .val (.ref rw), .val (.long (1 : Int64)), .second, .unset, .unset, .unset, .unset, .unset, .unset, .unset, .unset] [(.long vn1)]))
          generalize hfb2 : (fun j => if j = (ia + 2 + 1) then Value.double y1 else if j = (ia + 1) then Value.double x1 else fb1 j) = fb2 at ab63
          generalize hfw2 : (fun j => if j = 1 then Value.double z1 else fw1 j) = fw2 at aw63
          have hN1 : vn1.toInt = G1 := e363 (by decide)
          refine own_Go.st (fun _ kt => XS.goto X63.here hx rfl (pc0 := 214) (pc' := 218) rfl (hb hby at_214) (by decide) (by decide) kt) ?_
          show own_Go p e below _ (T63.setTop (mkF m 218 #[.val (.long p0), .second, .val (.long p1), .second, .val (.long p2), .second, .val (.int p3), .val (.int (2 : Int32)), .val (.int xat), .val (.int (1 : Int32)), .val (.int (1 : Int32)), .val (.ref rb), .val (.ref rw), .val (.long (1 : Int64)), .second, .unset, .unset, .unset, .unset, .unset, .unset, .unset, .unset] [(.long vn1)]))
          refine own_Go.st (fun _ kt => XS.lstore X63.here hx rfl (hb hby at_218) rfl (l' := #[.val (.long p0), .second, .val (.long p1), .second, .val (.long p2), .second, .val (.int p3), .val (.int (2 : Int32)), .val (.int xat), .val (.int (1 : Int32)), .val (.int (1 : Int32)), .val (.ref rb), .val (.ref rw), .val (.long (1 : Int64)), .second, .val (.long vn1), .second, .unset, .unset, .unset, .unset, .unset, .unset]) rfl kt) ?_
          show own_Go p e below _ (T63.setTop (mkF m 220 #[.val (.long p0), .second, .val (.long p1), .second, .val (.long p2), .second, .val (.int p3), .val (.int (2 : Int32)), .val (.int xat), .val (.int (1 : Int32)), .val (.int (1 : Int32)), .val (.ref rb), .val (.ref rw), .val (.long (1 : Int64)), .second, .val (.long vn1), .second, .unset, .unset, .unset, .unset, .unset, .unset] []))
          refine own_Go.st (fun _ kt => XS.iload X63.here hx rfl (hb hby at_220) rfl kt) ?_
          show own_Go p e below _ (T63.setTop (mkF m 222 #[.val (.long p0), .second, .val (.long p1), .second, .val (.long p2), .second, .val (.int p3), .val (.int (2 : Int32)), .val (.int xat), .val (.int (1 : Int32)), .val (.int (1 : Int32)), .val (.ref rb), .val (.ref rw), .val (.long (1 : Int64)), .second, .val (.long vn1), .second, .unset, .unset, .unset, .unset, .unset, .unset] [(.int (2 : Int32))]))
          refine own_Go.st (fun _ kt => XS.iconst X63.here hx rfl (hb hby at_222) kt) ?_
          show own_Go p e below _ (T63.setTop (mkF m 223 #[.val (.long p0), .second, .val (.long p1), .second, .val (.long p2), .second, .val (.int p3), .val (.int (2 : Int32)), .val (.int xat), .val (.int (1 : Int32)), .val (.int (1 : Int32)), .val (.ref rb), .val (.ref rw), .val (.long (1 : Int64)), .second, .val (.long vn1), .second, .unset, .unset, .unset, .unset, .unset, .unset] [(.int (2 : Int32)), (.int (2 : Int32))]))
          refine own_Go.st (fun _ kt => XS.icmpYes X63.here hx rfl (pc0 := 223) (pc' := 258) rfl (hb hby at_223) rfl (flt (by decide)).2.2.2 (by decide) (by decide) kt) ?_
          show own_Go p e below _ (T63.setTop (mkF m 258 #[.val (.long p0), .second, .val (.long p1), .second, .val (.long p2), .second, .val (.int p3), .val (.int (2 : Int32)), .val (.int xat), .val (.int (1 : Int32)), .val (.int (1 : Int32)), .val (.ref rb), .val (.ref rw), .val (.long (1 : Int64)), .second, .val (.long vn1), .second, .unset, .unset, .unset, .unset, .unset, .unset] []))
          refine own_Go.st (fun _ kt => XS.lconst X63.here hx rfl (hb hby at_258) kt) ?_
          show own_Go p e below _ (T63.setTop (mkF m 259 #[.val (.long p0), .second, .val (.long p1), .second, .val (.long p2), .second, .val (.int p3), .val (.int (2 : Int32)), .val (.int xat), .val (.int (1 : Int32)), .val (.int (1 : Int32)), .val (.ref rb), .val (.ref rw), .val (.long (1 : Int64)), .second, .val (.long vn1), .second, .unset, .unset, .unset, .unset, .unset, .unset] [(.long (1 : Int64))]))
          refine own_Go.st (fun _ kt => XS.lstore X63.here hx rfl (hb hby at_259) rfl (l' := #[.val (.long p0), .second, .val (.long p1), .second, .val (.long p2), .second, .val (.int p3), .val (.int (2 : Int32)), .val (.int xat), .val (.int (1 : Int32)), .val (.int (1 : Int32)), .val (.ref rb), .val (.ref rw), .val (.long (1 : Int64)), .second, .val (.long vn1), .second, .val (.long (1 : Int64)), .second, .unset, .unset, .unset, .unset]) rfl kt) ?_
          show own_Go p e below _ (T63.setTop (mkF m 261 #[.val (.long p0), .second, .val (.long p1), .second, .val (.long p2), .second, .val (.int p3), .val (.int (2 : Int32)), .val (.int xat), .val (.int (1 : Int32)), .val (.int (1 : Int32)), .val (.ref rb), .val (.ref rw), .val (.long (1 : Int64)), .second, .val (.long vn1), .second, .val (.long (1 : Int64)), .second, .unset, .unset, .unset, .unset] []))
          refine own_Go.st (fun _ kt => XS.aload X63.here hx rfl (hb hby at_261) rfl rfl kt) ?_
          show own_Go p e below _ (T63.setTop (mkF m 263 #[.val (.long p0), .second, .val (.long p1), .second, .val (.long p2), .second, .val (.int p3), .val (.int (2 : Int32)), .val (.int xat), .val (.int (1 : Int32)), .val (.int (1 : Int32)), .val (.ref rb), .val (.ref rw), .val (.long (1 : Int64)), .second, .val (.long vn1), .second, .val (.long (1 : Int64)), .second, .unset, .unset, .unset, .unset] [(.ref rb)]))
          refine own_Go.st (fun _ kt => XS.iload X63.here hx rfl (hb hby at_263) rfl kt) ?_
          show own_Go p e below _ (T63.setTop (mkF m 265 #[.val (.long p0), .second, .val (.long p1), .second, .val (.long p2), .second, .val (.int p3), .val (.int (2 : Int32)), .val (.int xat), .val (.int (1 : Int32)), .val (.int (1 : Int32)), .val (.ref rb), .val (.ref rw), .val (.long (1 : Int64)), .second, .val (.long vn1), .second, .val (.long (1 : Int64)), .second, .unset, .unset, .unset, .unset] [(.int xat), (.ref rb)]))
          refine own_Go.st (fun _ kt => XS.aload X63.here hx rfl (hb hby at_265) rfl rfl kt) ?_
          show own_Go p e below _ (T63.setTop (mkF m 267 #[.val (.long p0), .second, .val (.long p1), .second, .val (.long p2), .second, .val (.int p3), .val (.int (2 : Int32)), .val (.int xat), .val (.int (1 : Int32)), .val (.int (1 : Int32)), .val (.ref rb), .val (.ref rw), .val (.long (1 : Int64)), .second, .val (.long vn1), .second, .val (.long (1 : Int64)), .second, .unset, .unset, .unset, .unset] [(.ref rw), (.int xat), (.ref rb)]))
          have fx0 : fb2 (ia + 0) = .double x0 := by
            subst hfb2 hfb1
            dsimp only
            repeat (first | rw [if_pos (by omega)] | rw [if_neg (by omega)])
          have fy0 : fb2 (ia + 2 + 0) = .double y0 := by
            subst hfb2 hfb1
            dsimp only
            repeat (first | rw [if_pos (by omega)] | rw [if_neg (by omega)])
          have fz0 : fw2 0 = .double z0 := by
            subst hfw2 hfw1
            rfl
          have fx1 : fb2 (ia + 1) = .double x1 := by
            subst hfb2 hfb1
            dsimp only
            repeat (first | rw [if_pos (by omega)] | rw [if_neg (by omega)])
          have fy1 : fb2 (ia + 2 + 1) = .double y1 := by
            subst hfb2 hfb1
            dsimp only
            repeat (first | rw [if_pos (by omega)] | rw [if_neg (by omega)])
          have fz1 : fw2 1 = .double z1 := by
            subst hfw2 hfw1
            rfl
          have bN0 := own_nb ex60
          have bN1 := own_nb ex63
          have r1 : own_Rep (4 * G1 * ((2 ^ 2079 : Nat) : Int)) := own_rep2 _ _ 34 (by decide) (by omega)
          obtain ⟨_, _, ⟨T65, L65, k65, n65⟩, -, X65, ⟨Lc65, hQ65, l65, y65, z65⟩, st65⟩ := Jvm.LawKit.callS X63 hx (y := (⟨"com/example/thicket/thicket/PackedLevel", "grownVolume", "([DI[D)D"⟩ : MethodName)) hown (mvT hZ (hw _ (List.mem_of_getElem? (i := 28) rfl))) (mvT hZ (hw _ (List.mem_of_getElem? (i := 29) rfl))) (mvT hZ (hw _ (List.mem_of_getElem? (i := 30) rfl))) (mvT hZ (hw _ (List.mem_of_getElem? (i := 31) rfl))) (by decide) (backOf (W := 0) (own_gv2 l Z a0 hw [] rb xat rw ia fb2 fw2 x0 y0 z0 4 1072 x1 y1 z1 G1 2081 2079 T63.heap n0 zz64 ab63 aw63 hat la ex60 (by decide) fx0 fy0 fz0 ex63 (by decide) fx1 fy1 fz1 (by decide) r1) hZ (hw _ (List.mem_of_getElem? (i := 31) rfl)) (hw _ (List.mem_of_getElem? (i := 30) rfl)) (by decide) (by decide)) (g := (mkF m 267 #[.val (.long p0), .second, .val (.long p1), .second, .val (.long p2), .second, .val (.int p3), .val (.int (2 : Int32)), .val (.int xat), .val (.int (1 : Int32)), .val (.int (1 : Int32)), .val (.ref rb), .val (.ref rw), .val (.long (1 : Int64)), .second, .val (.long vn1), .second, .val (.long (1 : Int64)), .second, .unset, .unset, .unset, .unset] [(.ref rw), (.int xat), (.ref rb)])) rfl (by rw [hml]; rfl) (argsL := [(.ref rb), (.int xat), (.ref rw)]) (rest := []) (lenOf own_pd3 rfl) rfl (by show 2 * 0 + _ ≤ _; exact Nat.le_of_eq rfl) (hb hby at_267) (fun _ _ => ⟨rfl, rfl, (by decide : 2 + 0 ≤ _), (by decide : 12 + 0 ≤ _)⟩)
          dsimp only [Pt.U, Pt.locs, Pt.cells, Pt.slots] at X65 l65 y65 z65 st65 hQ65
          subst l65 y65 z65
          obtain ⟨d, rfl, N65q, hv65, hh65⟩ := hQ65
          have N65 := Fr.app N63 N65q
          refine own_Go.st (fun _ kt => st65 _ kt) ?_
          show own_Go p e below _ (T65.setTop (mkF m 270 #[.val (.long p0), .second, .val (.long p1), .second, .val (.long p2), .second, .val (.int p3), .val (.int (2 : Int32)), .val (.int xat), .val (.int (1 : Int32)), .val (.int (1 : Int32)), .val (.ref rb), .val (.ref rw), .val (.long (1 : Int64)), .second, .val (.long vn1), .second, .val (.long (1 : Int64)), .second, .unset, .unset, .unset, .unset] [(.double d)]))
          refine own_Go.st (fun _ kt => XS.dstore X65.here hx rfl (hb hby at_270) rfl (l' := #[.val (.long p0), .second, .val (.long p1), .second, .val (.long p2), .second, .val (.int p3), .val (.int (2 : Int32)), .val (.int xat), .val (.int (1 : Int32)), .val (.int (1 : Int32)), .val (.ref rb), .val (.ref rw), .val (.long (1 : Int64)), .second, .val (.long vn1), .second, .val (.long (1 : Int64)), .second, .val (.double d), .second, .unset, .unset]) rfl kt) ?_
          show own_Go p e below _ (T65.setTop (mkF m 272 #[.val (.long p0), .second, .val (.long p1), .second, .val (.long p2), .second, .val (.int p3), .val (.int (2 : Int32)), .val (.int xat), .val (.int (1 : Int32)), .val (.int (1 : Int32)), .val (.ref rb), .val (.ref rw), .val (.long (1 : Int64)), .second, .val (.long vn1), .second, .val (.long (1 : Int64)), .second, .val (.double d), .second, .unset, .unset] []))
          refine own_Go.st (fun _ kt => XS.iload X65.here hx rfl (hb hby at_272) rfl kt) ?_
          show own_Go p e below _ (T65.setTop (mkF m 274 #[.val (.long p0), .second, .val (.long p1), .second, .val (.long p2), .second, .val (.int p3), .val (.int (2 : Int32)), .val (.int xat), .val (.int (1 : Int32)), .val (.int (1 : Int32)), .val (.ref rb), .val (.ref rw), .val (.long (1 : Int64)), .second, .val (.long vn1), .second, .val (.long (1 : Int64)), .second, .val (.double d), .second, .unset, .unset] [(.int (1 : Int32))]))
          refine own_Go.st (fun _ kt => XS.ifNo X65.here hx rfl (hb hby at_274) rfl ((if0 _ _).trans (feq (by decide)).1) kt) ?_
          show own_Go p e below _ (T65.setTop (mkF m 277 #[.val (.long p0), .second, .val (.long p1), .second, .val (.long p2), .second, .val (.int p3), .val (.int (2 : Int32)), .val (.int xat), .val (.int (1 : Int32)), .val (.int (1 : Int32)), .val (.ref rb), .val (.ref rw), .val (.long (1 : Int64)), .second, .val (.long vn1), .second, .val (.long (1 : Int64)), .second, .val (.double d), .second, .unset, .unset] []))
          refine own_Go.st (fun _ kt => XS.iload X65.here hx rfl (hb hby at_277) rfl kt) ?_
          show own_Go p e below _ (T65.setTop (mkF m 279 #[.val (.long p0), .second, .val (.long p1), .second, .val (.long p2), .second, .val (.int p3), .val (.int (2 : Int32)), .val (.int xat), .val (.int (1 : Int32)), .val (.int (1 : Int32)), .val (.ref rb), .val (.ref rw), .val (.long (1 : Int64)), .second, .val (.long vn1), .second, .val (.long (1 : Int64)), .second, .val (.double d), .second, .unset, .unset] [(.int (1 : Int32))]))
          refine own_Go.st (fun _ kt => XS.ifYes X65.here hx rfl (pc0 := 279) (pc' := 287) rfl (hb hby at_279) rfl ((if0 _ _).trans (feq (by decide)).2) (by decide) (by decide) kt) ?_
          show own_Go p e below _ (T65.setTop (mkF m 287 #[.val (.long p0), .second, .val (.long p1), .second, .val (.long p2), .second, .val (.int p3), .val (.int (2 : Int32)), .val (.int xat), .val (.int (1 : Int32)), .val (.int (1 : Int32)), .val (.ref rb), .val (.ref rw), .val (.long (1 : Int64)), .second, .val (.long vn1), .second, .val (.long (1 : Int64)), .second, .val (.double d), .second, .unset, .unset] []))
          refine own_Go.st (fun _ kt => XS.iload X65.here hx rfl (hb hby at_287) rfl kt) ?_
          show own_Go p e below _ (T65.setTop (mkF m 289 #[.val (.long p0), .second, .val (.long p1), .second, .val (.long p2), .second, .val (.int p3), .val (.int (2 : Int32)), .val (.int xat), .val (.int (1 : Int32)), .val (.int (1 : Int32)), .val (.ref rb), .val (.ref rw), .val (.long (1 : Int64)), .second, .val (.long vn1), .second, .val (.long (1 : Int64)), .second, .val (.double d), .second, .unset, .unset] [(.int (1 : Int32))]))
          refine own_Go.st (fun _ kt => XS.iconst X65.here hx rfl (hb hby at_289) kt) ?_
          show own_Go p e below _ (T65.setTop (mkF m 290 #[.val (.long p0), .second, .val (.long p1), .second, .val (.long p2), .second, .val (.int p3), .val (.int (2 : Int32)), .val (.int xat), .val (.int (1 : Int32)), .val (.int (1 : Int32)), .val (.ref rb), .val (.ref rw), .val (.long (1 : Int64)), .second, .val (.long vn1), .second, .val (.long (1 : Int64)), .second, .val (.double d), .second, .unset, .unset] [(.int (1 : Int32)), (.int (1 : Int32))]))
          refine own_Go.st (fun _ kt => XS.icmpNo X65.here hx rfl (hb hby at_290) rfl (teq rfl).2 kt) ?_
          show own_Go p e below _ (T65.setTop (mkF m 293 #[.val (.long p0), .second, .val (.long p1), .second, .val (.long p2), .second, .val (.int p3), .val (.int (2 : Int32)), .val (.int xat), .val (.int (1 : Int32)), .val (.int (1 : Int32)), .val (.ref rb), .val (.ref rw), .val (.long (1 : Int64)), .second, .val (.long vn1), .second, .val (.long (1 : Int64)), .second, .val (.double d), .second, .unset, .unset] []))
          refine own_Go.st (fun _ kt => XS.lload X65.here hx rfl (hb hby at_293) rfl kt) ?_
          show own_Go p e below _ (T65.setTop (mkF m 295 #[.val (.long p0), .second, .val (.long p1), .second, .val (.long p2), .second, .val (.int p3), .val (.int (2 : Int32)), .val (.int xat), .val (.int (1 : Int32)), .val (.int (1 : Int32)), .val (.ref rb), .val (.ref rw), .val (.long (1 : Int64)), .second, .val (.long vn1), .second, .val (.long (1 : Int64)), .second, .val (.double d), .second, .unset, .unset] [(.long vn1)]))
          refine own_Go.st (fun _ kt => XS.goto X65.here hx rfl (pc0 := 295) (pc' := 300) rfl (hb hby at_295) (by decide) (by decide) kt) ?_
          show own_Go p e below _ (T65.setTop (mkF m 300 #[.val (.long p0), .second, .val (.long p1), .second, .val (.long p2), .second, .val (.int p3), .val (.int (2 : Int32)), .val (.int xat), .val (.int (1 : Int32)), .val (.int (1 : Int32)), .val (.ref rb), .val (.ref rw), .val (.long (1 : Int64)), .second, .val (.long vn1), .second, .val (.long (1 : Int64)), .second, .val (.double d), .second, .unset, .unset] [(.long vn1)]))
          refine own_Go.st (fun _ kt => XS.lstore X65.here hx rfl (hb hby at_300) rfl (l' := #[.val (.long p0), .second, .val (.long p1), .second, .val (.long p2), .second, .val (.int p3), .val (.int (2 : Int32)), .val (.int xat), .val (.int (1 : Int32)), .val (.int (1 : Int32)), .val (.ref rb), .val (.ref rw), .val (.long (1 : Int64)), .second, .val (.long vn1), .second, .val (.long (1 : Int64)), .second, .val (.double d), .second, .val (.long vn1), .second]) rfl kt) ?_
          show own_Go p e below _ (T65.setTop (mkF m 302 #[.val (.long p0), .second, .val (.long p1), .second, .val (.long p2), .second, .val (.int p3), .val (.int (2 : Int32)), .val (.int xat), .val (.int (1 : Int32)), .val (.int (1 : Int32)), .val (.ref rb), .val (.ref rw), .val (.long (1 : Int64)), .second, .val (.long vn1), .second, .val (.long (1 : Int64)), .second, .val (.double d), .second, .val (.long vn1), .second] []))
          refine own_Go.st (fun _ kt => XS.dload X65.here hx rfl (hb hby at_302) rfl kt) ?_
          show own_Go p e below _ (T65.setTop (mkF m 304 #[.val (.long p0), .second, .val (.long p1), .second, .val (.long p2), .second, .val (.int p3), .val (.int (2 : Int32)), .val (.int xat), .val (.int (1 : Int32)), .val (.int (1 : Int32)), .val (.ref rb), .val (.ref rw), .val (.long (1 : Int64)), .second, .val (.long vn1), .second, .val (.long (1 : Int64)), .second, .val (.double d), .second, .val (.long vn1), .second] [(.double d)]))
          refine own_Go.st (fun _ kt => XS.lload X65.here hx rfl (hb hby at_304) rfl kt) ?_
          show own_Go p e below _ (T65.setTop (mkF m 306 #[.val (.long p0), .second, .val (.long p1), .second, .val (.long p2), .second, .val (.int p3), .val (.int (2 : Int32)), .val (.int xat), .val (.int (1 : Int32)), .val (.int (1 : Int32)), .val (.ref rb), .val (.ref rw), .val (.long (1 : Int64)), .second, .val (.long vn1), .second, .val (.long (1 : Int64)), .second, .val (.double d), .second, .val (.long vn1), .second] [(.long vn1), (.double d)]))
          refine own_Go.st (fun _ kt => XS.l2dS X65.here hx rfl (hb hby at_306) rfl rfl kt) ?_
          show own_Go p e below _ (T65.setTop (mkF m 307 #[.val (.long p0), .second, .val (.long p1), .second, .val (.long p2), .second, .val (.int p3), .val (.int (2 : Int32)), .val (.int xat), .val (.int (1 : Int32)), .val (.int (1 : Int32)), .val (.ref rb), .val (.ref rw), .val (.long (1 : Int64)), .second, .val (.long vn1), .second, .val (.long (1 : Int64)), .second, .val (.double d), .second, .val (.long vn1), .second] [(.double (FP.l2d vn1)), (.double d)]))
          refine own_Go.st (fun _ kt => X65.ldc2DoubleC hx hown (mvT hZ (hw _ (List.mem_of_getElem? (i := 35) rfl))) (g := (mkF m 307 #[.val (.long p0), .second, .val (.long p1), .second, .val (.long p2), .second, .val (.int p3), .val (.int (2 : Int32)), .val (.int xat), .val (.int (1 : Int32)), .val (.int (1 : Int32)), .val (.ref rb), .val (.ref rw), .val (.long (1 : Int64)), .second, .val (.long vn1), .second, .val (.long (1 : Int64)), .second, .val (.double d), .second, .val (.long vn1), .second] [(.double (FP.l2d vn1)), (.double d)])) rfl (hb hby at_307) _ kt) ?_
          show own_Go p e below _ (T65.setTop (mkF m 310 #[.val (.long p0), .second, .val (.long p1), .second, .val (.long p2), .second, .val (.int p3), .val (.int (2 : Int32)), .val (.int xat), .val (.int (1 : Int32)), .val (.int (1 : Int32)), .val (.ref rb), .val (.ref rw), .val (.long (1 : Int64)), .second, .val (.long vn1), .second, .val (.long (1 : Int64)), .second, .val (.double d), .second, .val (.long vn1), .second] [(.double (9142307243562106880 : UInt64)), (.double (FP.l2d vn1)), (.double d)]))
          have hl := own_l2d (a := vn1) (by omega)
          rw [hN1] at hl
          have hm := own_mulP (D := 2081) hl own_D1007 (by decide) (by rw [Int.mul_one]; exact own_rep2 _ _ 36 (by decide) (by omega))
          rw [Int.mul_one] at hm
          refine own_Go.st (fun _ kt => XS.dmulS X65.here hx rfl (hb hby at_310) rfl (hm.n64) rfl kt) ?_
          show own_Go p e below _ (T65.setTop (mkF m 311 #[.val (.long p0), .second, .val (.long p1), .second, .val (.long p2), .second, .val (.int p3), .val (.int (2 : Int32)), .val (.int xat), .val (.int (1 : Int32)), .val (.int (1 : Int32)), .val (.ref rb), .val (.ref rw), .val (.long (1 : Int64)), .second, .val (.long vn1), .second, .val (.long (1 : Int64)), .second, .val (.double d), .second, .val (.long vn1), .second] [(.double (FP.dmul (FP.l2d vn1) (9142307243562106880 : UInt64))), (.double d)]))
          have heq : 4 * G1 * ((2 ^ 2079 : Nat) : Int) = G1 * ((2 ^ 2081 : Nat) : Int) := own_four2b G1
          rw [heq] at hv65
          refine own_Go.st (fun _ kt => XS.dcmpS X65.here hx rfl (hb hby at_311) rfl (own_deq hv65 hm _) kt) ?_
          show own_Go p e below _ (T65.setTop (mkF m 312 #[.val (.long p0), .second, .val (.long p1), .second, .val (.long p2), .second, .val (.int p3), .val (.int (2 : Int32)), .val (.int xat), .val (.int (1 : Int32)), .val (.int (1 : Int32)), .val (.ref rb), .val (.ref rw), .val (.long (1 : Int64)), .second, .val (.long vn1), .second, .val (.long (1 : Int64)), .second, .val (.double d), .second, .val (.long vn1), .second] [(.int (0 : Int32))]))
          refine own_Go.st (fun _ kt => XS.ifNo X65.here hx rfl (hb hby at_312) rfl ((if0 _ _).trans (teq rfl).2) kt) ?_
          show own_Go p e below _ (T65.setTop (mkF m 315 #[.val (.long p0), .second, .val (.long p1), .second, .val (.long p2), .second, .val (.int p3), .val (.int (2 : Int32)), .val (.int xat), .val (.int (1 : Int32)), .val (.int (1 : Int32)), .val (.ref rb), .val (.ref rw), .val (.long (1 : Int64)), .second, .val (.long vn1), .second, .val (.long (1 : Int64)), .second, .val (.double d), .second, .val (.long vn1), .second] []))
          refine own_Go.st (fun _ kt => XS.iconst X65.here hx rfl (hb hby at_315) kt) ?_
          show own_Go p e below _ (T65.setTop (mkF m 316 #[.val (.long p0), .second, .val (.long p1), .second, .val (.long p2), .second, .val (.int p3), .val (.int (2 : Int32)), .val (.int xat), .val (.int (1 : Int32)), .val (.int (1 : Int32)), .val (.ref rb), .val (.ref rw), .val (.long (1 : Int64)), .second, .val (.long vn1), .second, .val (.long (1 : Int64)), .second, .val (.double d), .second, .val (.long vn1), .second] [(.int (1 : Int32))]))
          refine own_Go.st (fun _ kt => XS.goto X65.here hx rfl (pc0 := 316) (pc' := 320) rfl (hb hby at_316) (by decide) (by decide) kt) ?_
          show own_Go p e below _ (T65.setTop (mkF m 320 #[.val (.long p0), .second, .val (.long p1), .second, .val (.long p2), .second, .val (.int p3), .val (.int (2 : Int32)), .val (.int xat), .val (.int (1 : Int32)), .val (.int (1 : Int32)), .val (.ref rb), .val (.ref rw), .val (.long (1 : Int64)), .second, .val (.long vn1), .second, .val (.long (1 : Int64)), .second, .val (.double d), .second, .val (.long vn1), .second] [(.int (1 : Int32))]))
          exact own_retZ X65 hx Bd.notSynchronized Bd.returns (Or.inr rfl) (hb hby at_320) (by decide) (by decide) ⟨rfl, N65⟩
    · show own_Go p e below _ (T22.setTop (mkF m 128 #[.val (.long p0), .second, .val (.long p1), .second, .val (.long p2), .second, .val (.int p3), .val (.int (3 : Int32)), .val (.int xat), .val (.int xu), .val (.int xg), .val (.ref rb), .unset, .unset, .unset, .unset, .unset, .unset, .unset, .unset, .unset, .unset, .unset] [(.int (1 : Int32)), (.int (3 : Int32))]))
      rcases hu with rfl | rfl
      · show own_Go p e below _ (T22.setTop (mkF m 128 #[.val (.long p0), .second, .val (.long p1), .second, .val (.long p2), .second, .val (.int p3), .val (.int (3 : Int32)), .val (.int xat), .val (.int (0 : Int32)), .val (.int xg), .val (.ref rb), .unset, .unset, .unset, .unset, .unset, .unset, .unset, .unset, .unset, .unset, .unset] [(.int (1 : Int32)), (.int (3 : Int32))]))
        obtain ⟨ig, hig, lig⟩ := own_ax ((p3.toUInt32 >>> ((5 : Int32) &&& 31).toUInt32).toInt32) 3 3 (by decide) (by decide)
        rw [hxg] at hig
        refine own_Go.st (fun _ kt => XS.icmpYes X22.here hx rfl (pc0 := 128) (pc' := 137) rfl (hb hby at_128) rfl (feq (by decide)).2 (by decide) (by decide) kt) ?_
        show own_Go p e below _ (T22.setTop (mkF m 137 #[.val (.long p0), .second, .val (.long p1), .second, .val (.long p2), .second, .val (.int p3), .val (.int (3 : Int32)), .val (.int xat), .val (.int (0 : Int32)), .val (.int xg), .val (.ref rb), .unset, .unset, .unset, .unset, .unset, .unset, .unset, .unset, .unset, .unset, .unset] []))
        refine own_Go.st (fun _ kt => XS.iload X22.here hx rfl (hb hby at_137) rfl kt) ?_
        show own_Go p e below _ (T22.setTop (mkF m 139 #[.val (.long p0), .second, .val (.long p1), .second, .val (.long p2), .second, .val (.int p3), .val (.int (3 : Int32)), .val (.int xat), .val (.int (0 : Int32)), .val (.int xg), .val (.ref rb), .unset, .unset, .unset, .unset, .unset, .unset, .unset, .unset, .unset, .unset, .unset] [(.int (3 : Int32))]))
        refine own_Go.st (fun _ kt => XS.iconst X22.here hx rfl (hb hby at_139) kt) ?_
        show own_Go p e below _ (T22.setTop (mkF m 140 #[.val (.long p0), .second, .val (.long p1), .second, .val (.long p2), .second, .val (.int p3), .val (.int (3 : Int32)), .val (.int xat), .val (.int (0 : Int32)), .val (.int xg), .val (.ref rb), .unset, .unset, .unset, .unset, .unset, .unset, .unset, .unset, .unset, .unset, .unset] [(.int (2 : Int32)), (.int (3 : Int32))]))
        refine own_Go.st (fun _ kt => XS.icmpYes X22.here hx rfl (pc0 := 140) (pc' := 149) rfl (hb hby at_140) rfl (feq (by decide)).2 (by decide) (by decide) kt) ?_
        show own_Go p e below _ (T22.setTop (mkF m 149 #[.val (.long p0), .second, .val (.long p1), .second, .val (.long p2), .second, .val (.int p3), .val (.int (3 : Int32)), .val (.int xat), .val (.int (0 : Int32)), .val (.int xg), .val (.ref rb), .unset, .unset, .unset, .unset, .unset, .unset, .unset, .unset, .unset, .unset, .unset] []))
        refine own_Go.st (fun _ kt => XS.iconst X22.here hx rfl (hb hby at_149) kt) ?_
        show own_Go p e below _ (T22.setTop (mkF m 150 #[.val (.long p0), .second, .val (.long p1), .second, .val (.long p2), .second, .val (.int p3), .val (.int (3 : Int32)), .val (.int xat), .val (.int (0 : Int32)), .val (.int xg), .val (.ref rb), .unset, .unset, .unset, .unset, .unset, .unset, .unset, .unset, .unset, .unset, .unset] [(.int (3 : Int32))]))
        obtain ⟨T66, h66, k66, X66, e66, E66, A66, st66⟩ := newP X22 hx hZ (hw _ (List.mem_of_getElem? (i := 0) rfl)) e22 (g := (mkF m 150 #[.val (.long p0), .second, .val (.long p1), .second, .val (.long p2), .second, .val (.int p3), .val (.int (3 : Int32)), .val (.int xat), .val (.int (0 : Int32)), .val (.int xg), .val (.ref rb), .unset, .unset, .unset, .unset, .unset, .unset, .unset, .unset, .unset, .unset, .unset] [(.int (3 : Int32))])) rfl (hb hby at_150) rfl (by decide) (cap := 3) (by decide) (by decide) (by decide) (by decide)
        obtain ⟨rw, g66⟩ : ∃ z, z = Array.size h22 := ⟨_, rfl⟩
        rw [← g66] at A66 st66
        refine own_Go.st st66 ?_
        have ne_rb_rw : rb ≠ rw := Nat.ne_of_lt (Nat.lt_of_lt_of_le (ab).lt (Nat.le_of_eq g66.symm))
        have n0_rw : n0 ≤ rw := Nat.le_trans zz23 (Nat.le_of_eq g66.symm)
        have zz67 : n0 ≤ Array.size h66 := Nat.le_trans zz23 E66.1
        show own_Go p e below _ (T66.setTop (mkF m 152 #[.val (.long p0), .second, .val (.long p1), .second, .val (.long p2), .second, .val (.int p3), .val (.int (3 : Int32)), .val (.int xat), .val (.int (0 : Int32)), .val (.int xg), .val (.ref rb), .unset, .unset, .unset, .unset, .unset, .unset, .unset, .unset, .unset, .unset, .unset] [(.ref rw)]))
        obtain ⟨fw, aw⟩ : ∃ fw, own_Ar Z h66 rw .double 3 fw := ⟨_, own_Ar.new A66 (by decide)⟩
        refine own_Go.st (fun _ kt => XS.astore X66.here hx rfl (hb hby at_152) rfl rfl (l' := #[.val (.long p0), .second, .val (.long p1), .second, .val (.long p2), .second, .val (.int p3), .val (.int (3 : Int32)), .val (.int xat), .val (.int (0 : Int32)), .val (.int xg), .val (.ref rb), .val (.ref rw), .unset, .unset, .unset, .unset, .unset, .unset, .unset, .unset, .unset, .unset]) rfl kt) ?_
        show own_Go p e below _ (T66.setTop (mkF m 154 #[.val (.long p0), .second, .val (.long p1), .second, .val (.long p2), .second, .val (.int p3), .val (.int (3 : Int32)), .val (.int xat), .val (.int (0 : Int32)), .val (.int xg), .val (.ref rb), .val (.ref rw), .unset, .unset, .unset, .unset, .unset, .unset, .unset, .unset, .unset, .unset] []))
        refine own_Go.st (fun _ kt => XS.lloadN X66.here hx rfl (hb hby at_154) rfl kt) ?_
        show own_Go p e below _ (T66.setTop (mkF m 155 #[.val (.long p0), .second, .val (.long p1), .second, .val (.long p2), .second, .val (.int p3), .val (.int (3 : Int32)), .val (.int xat), .val (.int (0 : Int32)), .val (.int xg), .val (.ref rb), .val (.ref rw), .unset, .unset, .unset, .unset, .unset, .unset, .unset, .unset, .unset, .unset] [(.long p0)]))
        refine own_Go.st (fun _ kt => XS.iload X66.here hx rfl (hb hby at_155) rfl kt) ?_
        show own_Go p e below _ (T66.setTop (mkF m 157 #[.val (.long p0), .second, .val (.long p1), .second, .val (.long p2), .second, .val (.int p3), .val (.int (3 : Int32)), .val (.int xat), .val (.int (0 : Int32)), .val (.int xg), .val (.ref rb), .val (.ref rw), .unset, .unset, .unset, .unset, .unset, .unset, .unset, .unset, .unset, .unset] [(.int (0 : Int32)), (.long p0)]))
        refine own_Go.st (fun _ kt => XS.iload X66.here hx rfl (hb hby at_157) rfl kt) ?_
        show own_Go p e below _ (T66.setTop (mkF m 159 #[.val (.long p0), .second, .val (.long p1), .second, .val (.long p2), .second, .val (.int p3), .val (.int (3 : Int32)), .val (.int xat), .val (.int (0 : Int32)), .val (.int xg), .val (.ref rb), .val (.ref rw), .unset, .unset, .unset, .unset, .unset, .unset, .unset, .unset, .unset, .unset] [(.int xg), (.int (0 : Int32)), (.long p0)]))
        refine own_Go.st (fun _ kt => XS.iconst X66.here hx rfl (hb hby at_159) kt) ?_
        show own_Go p e below _ (T66.setTop (mkF m 160 #[.val (.long p0), .second, .val (.long p1), .second, .val (.long p2), .second, .val (.int p3), .val (.int (3 : Int32)), .val (.int xat), .val (.int (0 : Int32)), .val (.int xg), .val (.ref rb), .val (.ref rw), .unset, .unset, .unset, .unset, .unset, .unset, .unset, .unset, .unset, .unset] [(.int (0 : Int32)), (.int xg), (.int (0 : Int32)), (.long p0)]))
        obtain ⟨_, _, ⟨T68, L68, k68, n68⟩, -, X68, ⟨Lc68, hQ68, l68, y68, z68⟩, st68⟩ := Jvm.LawKit.callS X66 hx (y := (⟨"com/example/thicket/thicket/PackedLevelGrownVolumePinLaw", "mode", "(ZII)I"⟩ : MethodName)) hown (mvT hZ (hw _ (List.mem_of_getElem? (i := 11) rfl))) (mvT hZ (hw _ (List.mem_of_getElem? (i := 12) rfl))) (mvT hZ (hw _ (List.mem_of_getElem? (i := 13) rfl))) (mvT hZ (hw _ (List.mem_of_getElem? (i := 14) rfl))) (by decide) (backOf (W := 2) (own_mode l Z a0 hw [] (0 : Int32) xg (0 : Int32) h66 n0 zz67 ) hZ (hw _ (List.mem_of_getElem? (i := 14) rfl)) (hw _ (List.mem_of_getElem? (i := 13) rfl)) (by decide) (by decide)) (g := (mkF m 160 #[.val (.long p0), .second, .val (.long p1), .second, .val (.long p2), .second, .val (.int p3), .val (.int (3 : Int32)), .val (.int xat), .val (.int (0 : Int32)), .val (.int xg), .val (.ref rb), .val (.ref rw), .unset, .unset, .unset, .unset, .unset, .unset, .unset, .unset, .unset, .unset] [(.int (0 : Int32)), (.int xg), (.int (0 : Int32)), (.long p0)])) rfl (by rw [hml]; rfl) (argsL := [(.int (0 : Int32)), (.int xg), (.int (0 : Int32))]) (rest := [(.long p0)]) (lenOf own_pd1 rfl) rfl (by show 2 * 0 + _ ≤ _; exact Nat.le_of_eq rfl) (hb hby at_160) (fun _ _ => ⟨rfl, e66, (by decide : 2 + 0 ≤ _), (by decide : 13 + 0 ≤ _)⟩)
        dsimp only [Pt.U, Pt.locs, Pt.cells, Pt.slots] at X68 l68 y68 z68 st68 hQ68
        subst l68 y68 z68
        obtain ⟨rfl, N68q, hh68⟩ := hQ68
        have N68 := Fr.app N22 N68q
        refine own_Go.st (fun _ kt => st68 _ kt) ?_
        show own_Go p e below _ (T68.setTop (mkF m 163 #[.val (.long p0), .second, .val (.long p1), .second, .val (.long p2), .second, .val (.int p3), .val (.int (3 : Int32)), .val (.int xat), .val (.int (0 : Int32)), .val (.int xg), .val (.ref rb), .val (.ref rw), .unset, .unset, .unset, .unset, .unset, .unset, .unset, .unset, .unset, .unset] [(.int (if (0 : Int32) = 0 then (0 : Int32) else if (0 : Int32) = xg then 1 else 2)), (.long p0)]))
        rw [show (if (0 : Int32) = 0 then (0 : Int32) else if (0 : Int32) = xg then 1 else 2) = (0 : Int32) from (by simp)]
        show own_Go p e below _ (T68.setTop (mkF m 163 #[.val (.long p0), .second, .val (.long p1), .second, .val (.long p2), .second, .val (.int p3), .val (.int (3 : Int32)), .val (.int xat), .val (.int (0 : Int32)), .val (.int xg), .val (.ref rb), .val (.ref rw), .unset, .unset, .unset, .unset, .unset, .unset, .unset, .unset, .unset, .unset] [(.int (0 : Int32)), (.long p0)]))
        refine own_Go.st (fun _ kt => XS.aload X68.here hx rfl (hb hby at_163) rfl rfl kt) ?_
        show own_Go p e below _ (T68.setTop (mkF m 165 #[.val (.long p0), .second, .val (.long p1), .second, .val (.long p2), .second, .val (.int p3), .val (.int (3 : Int32)), .val (.int xat), .val (.int (0 : Int32)), .val (.int xg), .val (.ref rb), .val (.ref rw), .unset, .unset, .unset, .unset, .unset, .unset, .unset, .unset, .unset, .unset] [(.ref rb), (.int (0 : Int32)), (.long p0)]))
        refine own_Go.st (fun _ kt => XS.iload X68.here hx rfl (hb hby at_165) rfl kt) ?_
        show own_Go p e below _ (T68.setTop (mkF m 167 #[.val (.long p0), .second, .val (.long p1), .second, .val (.long p2), .second, .val (.int p3), .val (.int (3 : Int32)), .val (.int xat), .val (.int (0 : Int32)), .val (.int xg), .val (.ref rb), .val (.ref rw), .unset, .unset, .unset, .unset, .unset, .unset, .unset, .unset, .unset, .unset] [(.int xat), (.ref rb), (.int (0 : Int32)), (.long p0)]))
        refine own_Go.st (fun _ kt => XS.iload X68.here hx rfl (hb hby at_167) rfl kt) ?_
        show own_Go p e below _ (T68.setTop (mkF m 169 #[.val (.long p0), .second, .val (.long p1), .second, .val (.long p2), .second, .val (.int p3), .val (.int (3 : Int32)), .val (.int xat), .val (.int (0 : Int32)), .val (.int xg), .val (.ref rb), .val (.ref rw), .unset, .unset, .unset, .unset, .unset, .unset, .unset, .unset, .unset, .unset] [(.int xat), (.int xat), (.ref rb), (.int (0 : Int32)), (.long p0)]))
        refine own_Go.st (fun _ kt => XS.iload X68.here hx rfl (hb hby at_169) rfl kt) ?_
        show own_Go p e below _ (T68.setTop (mkF m 171 #[.val (.long p0), .second, .val (.long p1), .second, .val (.long p2), .second, .val (.int p3), .val (.int (3 : Int32)), .val (.int xat), .val (.int (0 : Int32)), .val (.int xg), .val (.ref rb), .val (.ref rw), .unset, .unset, .unset, .unset, .unset, .unset, .unset, .unset, .unset, .unset] [(.int (3 : Int32)), (.int xat), (.int xat), (.ref rb), (.int (0 : Int32)), (.long p0)]))
        refine own_Go.st (fun _ kt => XS.iadd X68.here hx rfl (hb hby at_171) rfl kt) ?_
        show own_Go p e below _ (T68.setTop (mkF m 172 #[.val (.long p0), .second, .val (.long p1), .second, .val (.long p2), .second, .val (.int p3), .val (.int (3 : Int32)), .val (.int xat), .val (.int (0 : Int32)), .val (.int xg), .val (.ref rb), .val (.ref rw), .unset, .unset, .unset, .unset, .unset, .unset, .unset, .unset, .unset, .unset] [(.int (xat + (3 : Int32))), (.int xat), (.ref rb), (.int (0 : Int32)), (.long p0)]))
        refine own_Go.st (fun _ kt => XS.aload X68.here hx rfl (hb hby at_172) rfl rfl kt) ?_
        show own_Go p e below _ (T68.setTop (mkF m 174 #[.val (.long p0), .second, .val (.long p1), .second, .val (.long p2), .second, .val (.int p3), .val (.int (3 : Int32)), .val (.int xat), .val (.int (0 : Int32)), .val (.int xg), .val (.ref rb), .val (.ref rw), .unset, .unset, .unset, .unset, .unset, .unset, .unset, .unset, .unset, .unset] [(.ref rw), (.int (xat + (3 : Int32))), (.int xat), (.ref rb), (.int (0 : Int32)), (.long p0)]))
        refine own_Go.st (fun _ kt => XS.iconst X68.here hx rfl (hb hby at_174) kt) ?_
        show own_Go p e below _ (T68.setTop (mkF m 175 #[.val (.long p0), .second, .val (.long p1), .second, .val (.long p2), .second, .val (.int p3), .val (.int (3 : Int32)), .val (.int xat), .val (.int (0 : Int32)), .val (.int xg), .val (.ref rb), .val (.ref rw), .unset, .unset, .unset, .unset, .unset, .unset, .unset, .unset, .unset, .unset] [(.int (0 : Int32)), (.ref rw), (.int (xat + (3 : Int32))), (.int xat), (.ref rb), (.int (0 : Int32)), (.long p0)]))
        have f69 := (ab.ext E66)
        obtain ⟨_, _, ⟨T70, L70, k70, n70⟩, -, X70, ⟨Lc70, hQ70, l70, y70, z70⟩, st70⟩ := Jvm.LawKit.callS X68 hx (y := (⟨"com/example/thicket/thicket/PackedLevelGrownVolumePinLaw", "fill", "(JI[DII[DI)J"⟩ : MethodName)) hown (mvT hZ (hw _ (List.mem_of_getElem? (i := 15) rfl))) (mvT hZ (hw _ (List.mem_of_getElem? (i := 16) rfl))) (mvT hZ (hw _ (List.mem_of_getElem? (i := 13) rfl))) (mvT hZ (hw _ (List.mem_of_getElem? (i := 17) rfl))) (by decide) (backOf (W := 0) (own_fill l Z a0 hw [] p0 (0 : Int32) rb xat (xat + (3 : Int32)) rw (0 : Int32) ia (ia + 3) 0 3 fb fw h66 n0 zz67 f69 aw ne_rb_rw n0_rb n0_rw hat (own_addn hat (e := 3) (by decide) (by omega) (by decide)) (by decide) (by omega) (by omega) (by decide) (by decide)) hZ (hw _ (List.mem_of_getElem? (i := 17) rfl)) (hw _ (List.mem_of_getElem? (i := 13) rfl)) (by decide) (by decide)) (g := (mkF m 175 #[.val (.long p0), .second, .val (.long p1), .second, .val (.long p2), .second, .val (.int p3), .val (.int (3 : Int32)), .val (.int xat), .val (.int (0 : Int32)), .val (.int xg), .val (.ref rb), .val (.ref rw), .unset, .unset, .unset, .unset, .unset, .unset, .unset, .unset, .unset, .unset] [(.int (0 : Int32)), (.ref rw), (.int (xat + (3 : Int32))), (.int xat), (.ref rb), (.int (0 : Int32)), (.long p0)])) rfl (by rw [hml]; rfl) (argsL := [(.long p0), (.int (0 : Int32)), (.ref rb), (.int xat), (.int (xat + (3 : Int32))), (.ref rw), (.int (0 : Int32))]) (rest := []) (lenOf own_pd2 rfl) rfl (by show 2 * 0 + _ ≤ _; exact Nat.le_of_eq rfl) (hb hby at_175) (fun _ _ => ⟨rfl, hh68, (by decide : 2 + 0 ≤ _), (by decide : 13 + 0 ≤ _)⟩)
        dsimp only [Pt.U, Pt.locs, Pt.cells, Pt.slots] at X70 l70 y70 z70 st70 hQ70
        subst l70 y70 z70
        obtain ⟨vn0, x0, y0, z0, G0, rfl, N70q, ex70, e270, e370, ab70, aw70, KF70⟩ := hQ70
        have N70 := Fr.app N68 N70q
        refine own_Go.st (fun _ kt => st70 _ kt) ?_
        have zz71 : n0 ≤ Array.size T70.heap := Nat.le_trans zz67 KF70.1
        show own_Go p e below _ (T70.setTop (mkF m 178 #[.val (.long p0), .second, .val (.long p1), .second, .val (.long p2), .second, .val (.int p3), .val (.int (3 : Int32)), .val (.int xat), .val (.int (0 : Int32)), .val (.int xg), .val (.ref rb), .val (.ref rw), .unset, .unset, .unset, .unset, .unset, .unset, .unset, .unset, .unset, .unset] [(.long vn0)]))
        generalize hfb1 : (fun j => if j = (ia + 3) then Value.double y0 else if j = ia then Value.double x0 else fb j) = fb1 at ab70
        generalize hfw1 : (fun j => if j = 0 then Value.double z0 else fw j) = fw1 at aw70
        have hN0 : vn0.toInt = G0 := e370 (by decide)
        refine own_Go.st (fun _ kt => XS.lstore X70.here hx rfl (hb hby at_178) rfl (l' := #[.val (.long p0), .second, .val (.long p1), .second, .val (.long p2), .second, .val (.int p3), .val (.int (3 : Int32)), .val (.int xat), .val (.int (0 : Int32)), .val (.int xg), .val (.ref rb), .val (.ref rw), .val (.long vn0), .second, .unset, .unset, .unset, .unset, .unset, .unset, .unset, .unset]) rfl kt) ?_
        show own_Go p e below _ (T70.setTop (mkF m 180 #[.val (.long p0), .second, .val (.long p1), .second, .val (.long p2), .second, .val (.int p3), .val (.int (3 : Int32)), .val (.int xat), .val (.int (0 : Int32)), .val (.int xg), .val (.ref rb), .val (.ref rw), .val (.long vn0), .second, .unset, .unset, .unset, .unset, .unset, .unset, .unset, .unset] []))
        refine own_Go.st (fun _ kt => XS.iload X70.here hx rfl (hb hby at_180) rfl kt) ?_
        show own_Go p e below _ (T70.setTop (mkF m 182 #[.val (.long p0), .second, .val (.long p1), .second, .val (.long p2), .second, .val (.int p3), .val (.int (3 : Int32)), .val (.int xat), .val (.int (0 : Int32)), .val (.int xg), .val (.ref rb), .val (.ref rw), .val (.long vn0), .second, .unset, .unset, .unset, .unset, .unset, .unset, .unset, .unset] [(.int (3 : Int32))]))
        refine own_Go.st (fun _ kt => XS.iconst X70.here hx rfl (hb hby at_182) kt) ?_
        show own_Go p e below _ (T70.setTop (mkF m 183 #[.val (.long p0), .second, .val (.long p1), .second, .val (.long p2), .second, .val (.int p3), .val (.int (3 : Int32)), .val (.int xat), .val (.int (0 : Int32)), .val (.int xg), .val (.ref rb), .val (.ref rw), .val (.long vn0), .second, .unset, .unset, .unset, .unset, .unset, .unset, .unset, .unset] [(.int (1 : Int32)), (.int (3 : Int32))]))
        refine own_Go.st (fun _ kt => XS.icmpNo X70.here hx rfl (hb hby at_183) rfl (tlt (by decide)).2.2.2 kt) ?_
        show own_Go p e below _ (T70.setTop (mkF m 186 #[.val (.long p0), .second, .val (.long p1), .second, .val (.long p2), .second, .val (.int p3), .val (.int (3 : Int32)), .val (.int xat), .val (.int (0 : Int32)), .val (.int xg), .val (.ref rb), .val (.ref rw), .val (.long vn0), .second, .unset, .unset, .unset, .unset, .unset, .unset, .unset, .unset] []))
        refine own_Go.st (fun _ kt => XS.lloadN X70.here hx rfl (hb hby at_186) rfl kt) ?_
        show own_Go p e below _ (T70.setTop (mkF m 187 #[.val (.long p0), .second, .val (.long p1), .second, .val (.long p2), .second, .val (.int p3), .val (.int (3 : Int32)), .val (.int xat), .val (.int (0 : Int32)), .val (.int xg), .val (.ref rb), .val (.ref rw), .val (.long vn0), .second, .unset, .unset, .unset, .unset, .unset, .unset, .unset, .unset] [(.long p1)]))
        refine own_Go.st (fun _ kt => XS.iload X70.here hx rfl (hb hby at_187) rfl kt) ?_
        show own_Go p e below _ (T70.setTop (mkF m 189 #[.val (.long p0), .second, .val (.long p1), .second, .val (.long p2), .second, .val (.int p3), .val (.int (3 : Int32)), .val (.int xat), .val (.int (0 : Int32)), .val (.int xg), .val (.ref rb), .val (.ref rw), .val (.long vn0), .second, .unset, .unset, .unset, .unset, .unset, .unset, .unset, .unset] [(.int (0 : Int32)), (.long p1)]))
        refine own_Go.st (fun _ kt => XS.iload X70.here hx rfl (hb hby at_189) rfl kt) ?_
        show own_Go p e below _ (T70.setTop (mkF m 191 #[.val (.long p0), .second, .val (.long p1), .second, .val (.long p2), .second, .val (.int p3), .val (.int (3 : Int32)), .val (.int xat), .val (.int (0 : Int32)), .val (.int xg), .val (.ref rb), .val (.ref rw), .val (.long vn0), .second, .unset, .unset, .unset, .unset, .unset, .unset, .unset, .unset] [(.int xg), (.int (0 : Int32)), (.long p1)]))
        refine own_Go.st (fun _ kt => XS.iconst X70.here hx rfl (hb hby at_191) kt) ?_
        show own_Go p e below _ (T70.setTop (mkF m 192 #[.val (.long p0), .second, .val (.long p1), .second, .val (.long p2), .second, .val (.int p3), .val (.int (3 : Int32)), .val (.int xat), .val (.int (0 : Int32)), .val (.int xg), .val (.ref rb), .val (.ref rw), .val (.long vn0), .second, .unset, .unset, .unset, .unset, .unset, .unset, .unset, .unset] [(.int (1 : Int32)), (.int xg), (.int (0 : Int32)), (.long p1)]))
        obtain ⟨_, _, ⟨T72, L72, k72, n72⟩, -, X72, ⟨Lc72, hQ72, l72, y72, z72⟩, st72⟩ := Jvm.LawKit.callS X70 hx (y := (⟨"com/example/thicket/thicket/PackedLevelGrownVolumePinLaw", "mode", "(ZII)I"⟩ : MethodName)) hown (mvT hZ (hw _ (List.mem_of_getElem? (i := 11) rfl))) (mvT hZ (hw _ (List.mem_of_getElem? (i := 12) rfl))) (mvT hZ (hw _ (List.mem_of_getElem? (i := 13) rfl))) (mvT hZ (hw _ (List.mem_of_getElem? (i := 14) rfl))) (by decide) (backOf (W := 2) (own_mode l Z a0 hw [] (0 : Int32) xg (1 : Int32) T70.heap n0 zz71 ) hZ (hw _ (List.mem_of_getElem? (i := 14) rfl)) (hw _ (List.mem_of_getElem? (i := 13) rfl)) (by decide) (by decide)) (g := (mkF m 192 #[.val (.long p0), .second, .val (.long p1), .second, .val (.long p2), .second, .val (.int p3), .val (.int (3 : Int32)), .val (.int xat), .val (.int (0 : Int32)), .val (.int xg), .val (.ref rb), .val (.ref rw), .val (.long vn0), .second, .unset, .unset, .unset, .unset, .unset, .unset, .unset, .unset] [(.int (1 : Int32)), (.int xg), (.int (0 : Int32)), (.long p1)])) rfl (by rw [hml]; rfl) (argsL := [(.int (0 : Int32)), (.int xg), (.int (1 : Int32))]) (rest := [(.long p1)]) (lenOf own_pd1 rfl) rfl (by show 2 * 0 + _ ≤ _; exact Nat.le_of_eq rfl) (hb hby at_192) (fun _ _ => ⟨rfl, rfl, (by decide : 2 + 0 ≤ _), (by decide : 13 + 0 ≤ _)⟩)
        dsimp only [Pt.U, Pt.locs, Pt.cells, Pt.slots] at X72 l72 y72 z72 st72 hQ72
        subst l72 y72 z72
        obtain ⟨rfl, N72q, hh72⟩ := hQ72
        have N72 := Fr.app N70 N72q
        refine own_Go.st (fun _ kt => st72 _ kt) ?_
        show own_Go p e below _ (T72.setTop (mkF m 195 #[.val (.long p0), .second, .val (.long p1), .second, .val (.long p2), .second, .val (.int p3), .val (.int (3 : Int32)), .val (.int xat), .val (.int (0 : Int32)), .val (.int xg), .val (.ref rb), .val (.ref rw), .val (.long vn0), .second, .unset, .unset, .unset, .unset, .unset, .unset, .unset, .unset] [(.int (if (0 : Int32) = 0 then (0 : Int32) else if (1 : Int32) = xg then 1 else 2)), (.long p1)]))
        rw [show (if (0 : Int32) = 0 then (0 : Int32) else if (1 : Int32) = xg then 1 else 2) = (0 : Int32) from (by simp)]
        show own_Go p e below _ (T72.setTop (mkF m 195 #[.val (.long p0), .second, .val (.long p1), .second, .val (.long p2), .second, .val (.int p3), .val (.int (3 : Int32)), .val (.int xat), .val (.int (0 : Int32)), .val (.int xg), .val (.ref rb), .val (.ref rw), .val (.long vn0), .second, .unset, .unset, .unset, .unset, .unset, .unset, .unset, .unset] [(.int (0 : Int32)), (.long p1)]))
        refine own_Go.st (fun _ kt => XS.aload X72.here hx rfl (hb hby at_195) rfl rfl kt) ?_
        show own_Go p e below _ (T72.setTop (mkF m 197 #[.val (.long p0), .second, .val (.long p1), .second, .val (.long p2), .second, .val (.int p3), .val (.int (3 : Int32)), .val (.int xat), .val (.int (0 : Int32)), .val (.int xg), .val (.ref rb), .val (.ref rw), .val (.long vn0), .second, .unset, .unset, .unset, .unset, .unset, .unset, .unset, .unset] [(.ref rb), (.int (0 : Int32)), (.long p1)]))
        refine own_Go.st (fun _ kt => XS.iload X72.here hx rfl (hb hby at_197) rfl kt) ?_
        show own_Go p e below _ (T72.setTop (mkF m 199 #[.val (.long p0), .second, .val (.long p1), .second, .val (.long p2), .second, .val (.int p3), .val (.int (3 : Int32)), .val (.int xat), .val (.int (0 : Int32)), .val (.int xg), .val (.ref rb), .val (.ref rw), .val (.long vn0), .second, .unset, .unset, .unset, .unset, .unset, .unset, .unset, .unset] [(.int xat), (.ref rb), (.int (0 : Int32)), (.long p1)]))
        refine own_Go.st (fun _ kt => XS.iconst X72.here hx rfl (hb hby at_199) kt) ?_
        show own_Go p e below _ (T72.setTop (mkF m 200 #[.val (.long p0), .second, .val (.long p1), .second, .val (.long p2), .second, .val (.int p3), .val (.int (3 : Int32)), .val (.int xat), .val (.int (0 : Int32)), .val (.int xg), .val (.ref rb), .val (.ref rw), .val (.long vn0), .second, .unset, .unset, .unset, .unset, .unset, .unset, .unset, .unset] [(.int (1 : Int32)), (.int xat), (.ref rb), (.int (0 : Int32)), (.long p1)]))
        refine own_Go.st (fun _ kt => XS.iadd X72.here hx rfl (hb hby at_200) rfl kt) ?_
        show own_Go p e below _ (T72.setTop (mkF m 201 #[.val (.long p0), .second, .val (.long p1), .second, .val (.long p2), .second, .val (.int p3), .val (.int (3 : Int32)), .val (.int xat), .val (.int (0 : Int32)), .val (.int xg), .val (.ref rb), .val (.ref rw), .val (.long vn0), .second, .unset, .unset, .unset, .unset, .unset, .unset, .unset, .unset] [(.int (xat + (1 : Int32))), (.ref rb), (.int (0 : Int32)), (.long p1)]))
        refine own_Go.st (fun _ kt => XS.iload X72.here hx rfl (hb hby at_201) rfl kt) ?_
        show own_Go p e below _ (T72.setTop (mkF m 203 #[.val (.long p0), .second, .val (.long p1), .second, .val (.long p2), .second, .val (.int p3), .val (.int (3 : Int32)), .val (.int xat), .val (.int (0 : Int32)), .val (.int xg), .val (.ref rb), .val (.ref rw), .val (.long vn0), .second, .unset, .unset, .unset, .unset, .unset, .unset, .unset, .unset] [(.int xat), (.int (xat + (1 : Int32))), (.ref rb), (.int (0 : Int32)), (.long p1)]))
        refine own_Go.st (fun _ kt => XS.iload X72.here hx rfl (hb hby at_203) rfl kt) ?_
        show own_Go p e below _ (T72.setTop (mkF m 205 #[.val (.long p0), .second, .val (.long p1), .second, .val (.long p2), .second, .val (.int p3), .val (.int (3 : Int32)), .val (.int xat), .val (.int (0 : Int32)), .val (.int xg), .val (.ref rb), .val (.ref rw), .val (.long vn0), .second, .unset, .unset, .unset, .unset, .unset, .unset, .unset, .unset] [(.int (3 : Int32)), (.int xat), (.int (xat + (1 : Int32))), (.ref rb), (.int (0 : Int32)), (.long p1)]))
        refine own_Go.st (fun _ kt => XS.iadd X72.here hx rfl (hb hby at_205) rfl kt) ?_
        show own_Go p e below _ (T72.setTop (mkF m 206 #[.val (.long p0), .second, .val (.long p1), .second, .val (.long p2), .second, .val (.int p3), .val (.int (3 : Int32)), .val (.int xat), .val (.int (0 : Int32)), .val (.int xg), .val (.ref rb), .val (.ref rw), .val (.long vn0), .second, .unset, .unset, .unset, .unset, .unset, .unset, .unset, .unset] [(.int (xat + (3 : Int32))), (.int (xat + (1 : Int32))), (.ref rb), (.int (0 : Int32)), (.long p1)]))
        refine own_Go.st (fun _ kt => XS.iconst X72.here hx rfl (hb hby at_206) kt) ?_
        show own_Go p e below _ (T72.setTop (mkF m 207 #[.val (.long p0), .second, .val (.long p1), .second, .val (.long p2), .second, .val (.int p3), .val (.int (3 : Int32)), .val (.int xat), .val (.int (0 : Int32)), .val (.int xg), .val (.ref rb), .val (.ref rw), .val (.long vn0), .second, .unset, .unset, .unset, .unset, .unset, .unset, .unset, .unset] [(.int (1 : Int32)), (.int (xat + (3 : Int32))), (.int (xat + (1 : Int32))), (.ref rb), (.int (0 : Int32)), (.long p1)]))
        refine own_Go.st (fun _ kt => XS.iadd X72.here hx rfl (hb hby at_207) rfl kt) ?_
        show own_Go p e below _ (T72.setTop (mkF m 208 #[.val (.long p0), .second, .val (.long p1), .second, .val (.long p2), .second, .val (.int p3), .val (.int (3 : Int32)), .val (.int xat), .val (.int (0 : Int32)), .val (.int xg), .val (.ref rb), .val (.ref rw), .val (.long vn0), .second, .unset, .unset, .unset, .unset, .unset, .unset, .unset, .unset] [(.int ((xat + (3 : Int32)) + (1 : Int32))), (.int (xat + (1 : Int32))), (.ref rb), (.int (0 : Int32)), (.long p1)]))
        refine own_Go.st (fun _ kt => XS.aload X72.here hx rfl (hb hby at_208) rfl rfl kt) ?_
        show own_Go p e below _ (T72.setTop (mkF m 210 #[.val (.long p0), .second, .val (.long p1), .second, .val (.long p2), .second, .val (.int p3), .val (.int (3 : Int32)), .val (.int xat), .val (.int (0 : Int32)), .val (.int xg), .val (.ref rb), .val (.ref rw), .val (.long vn0), .second, .unset, .unset, .unset, .unset, .unset, .unset, .unset, .unset] [(.ref rw), (.int ((xat + (3 : Int32)) + (1 : Int32))), (.int (xat + (1 : Int32))), (.ref rb), (.int (0 : Int32)), (.long p1)]))
        refine own_Go.st (fun _ kt => XS.iconst X72.here hx rfl (hb hby at_210) kt) ?_
        show own_Go p e below _ (T72.setTop (mkF m 211 #[.val (.long p0), .second, .val (.long p1), .second, .val (.long p2), .second, .val (.int p3), .val (.int (3 : Int32)), .val (.int xat), .val (.int (0 : Int32)), .val (.int xg), .val (.ref rb), .val (.ref rw), .val (.long vn0), .second, .unset, .unset, .unset, .unset, .unset, .unset, .unset, .unset] [(.int (1 : Int32)), (.ref rw), (.int ((xat + (3 : Int32)) + (1 : Int32))), (.int (xat + (1 : Int32))), (.ref rb), (.int (0 : Int32)), (.long p1)]))
        obtain ⟨_, _, ⟨T73, L73, k73, n73⟩, -, X73, ⟨Lc73, hQ73, l73, y73, z73⟩, st73⟩ := Jvm.LawKit.callS X72 hx (y := (⟨"com/example/thicket/thicket/PackedLevelGrownVolumePinLaw", "fill", "(JI[DII[DI)J"⟩ : MethodName)) hown (mvT hZ (hw _ (List.mem_of_getElem? (i := 15) rfl))) (mvT hZ (hw _ (List.mem_of_getElem? (i := 16) rfl))) (mvT hZ (hw _ (List.mem_of_getElem? (i := 13) rfl))) (mvT hZ (hw _ (List.mem_of_getElem? (i := 17) rfl))) (by decide) (backOf (W := 0) (own_fill l Z a0 hw [] p1 (0 : Int32) rb (xat + (1 : Int32)) ((xat + (3 : Int32)) + (1 : Int32)) rw (1 : Int32) (ia + 1) (ia + 3 + 1) 1 3 fb1 fw1 T70.heap n0 zz71 ab70 aw70 ne_rb_rw n0_rb n0_rw (own_addn hat (e := 1) (by decide) (by omega) (by decide)) (own_addn (own_addn hat (e := 3) (by decide) (by omega) (by decide)) (e := 1) (by decide) (by omega) (by decide)) (by decide) (by omega) (by omega) (by decide) (by decide)) hZ (hw _ (List.mem_of_getElem? (i := 17) rfl)) (hw _ (List.mem_of_getElem? (i := 13) rfl)) (by decide) (by decide)) (g := (mkF m 211 #[.val (.long p0), .second, .val (.long p1), .second, .val (.long p2), .second, .val (.int p3), .val (.int (3 : Int32)), .val (.int xat), .val (.int (0 : Int32)), .val (.int xg), .val (.ref rb), .val (.ref rw), .val (.long vn0), .second, .unset, .unset, .unset, .unset, .unset, .unset, .unset, .unset] [(.int (1 : Int32)), (.ref rw), (.int ((xat + (3 : Int32)) + (1 : Int32))), (.int (xat + (1 : Int32))), (.ref rb), (.int (0 : Int32)), (.long p1)])) rfl (by rw [hml]; rfl) (argsL := [(.long p1), (.int (0 : Int32)), (.ref rb), (.int (xat + (1 : Int32))), (.int ((xat + (3 : Int32)) + (1 : Int32))), (.ref rw), (.int (1 : Int32))]) (rest := []) (lenOf own_pd2 rfl) rfl (by show 2 * 0 + _ ≤ _; exact Nat.le_of_eq rfl) (hb hby at_211) (fun _ _ => ⟨rfl, hh72, (by decide : 2 + 0 ≤ _), (by decide : 13 + 0 ≤ _)⟩)
        dsimp only [Pt.U, Pt.locs, Pt.cells, Pt.slots] at X73 l73 y73 z73 st73 hQ73
        subst l73 y73 z73
        obtain ⟨vn1, x1, y1, z1, G1, rfl, N73q, ex73, e273, e373, ab73, aw73, KF73⟩ := hQ73
        have N73 := Fr.app N72 N73q
        refine own_Go.st (fun _ kt => st73 _ kt) ?_
        have zz74 : n0 ≤ Array.size T73.heap := Nat.le_trans zz71 KF73.1
        show own_Go p e below _ (T73.setTop (mkF m 214 #[.val (.long p0), .second, .val (.long p1), .second, .val (.long p2), .second, .val (.int p3), .val (.int (3 : Int32)), .val (.int xat), .val (.int (0 : Int32)), .val (.int xg), .val (.ref rb), .val (.ref rw), .val (.long vn0), .second, .unset, .unset, .unset, .unset, .unset, .unset, .unset, .unset] [(.long vn1)]))
        generalize hfb2 : (fun j => if j = (ia + 3 + 1) then Value.double y1 else if j = (ia + 1) then Value.double x1 else fb1 j) = fb2 at ab73
        generalize hfw2 : (fun j => if j = 1 then Value.double z1 else fw1 j) = fw2 at aw73
        have hN1 : vn1.toInt = G1 := e373 (by decide)
        refine own_Go.st (fun _ kt => XS.goto X73.here hx rfl (pc0 := 214) (pc' := 218) rfl (hb hby at_214) (by decide) (by decide) kt) ?_
        show own_Go p e below _ (T73.setTop (mkF m 218 #[.val (.long p0), .second, .val (.long p1), .second, .val (.long p2), .second, .val (.int p3), .val (.int (3 : Int32)), .val (.int xat), .val (.int (0 : Int32)), .val (.int xg), .val (.ref rb), .val (.ref rw), .val (.long vn0), .second, .unset, .unset, .unset, .unset, .unset, .unset, .unset, .unset] [(.long vn1)]))
        refine own_Go.st (fun _ kt => XS.lstore X73.here hx rfl (hb hby at_218) rfl (l' := #[.val (.long p0), .second, .val (.long p1), .second, .val (.long p2), .second, .val (.int p3), .val (.int (3 : Int32)), .val (.int xat), .val (.int (0 : Int32)), .val (.int xg), .val (.ref rb), .val (.ref rw), .val (.long vn0), .second, .val (.long vn1), .second, .unset, .unset, .unset, .unset, .unset, .unset]) rfl kt) ?_
        show own_Go p e below _ (T73.setTop (mkF m 220 #[.val (.long p0), .second, .val (.long p1), .second, .val (.long p2), .second, .val (.int p3), .val (.int (3 : Int32)), .val (.int xat), .val (.int (0 : Int32)), .val (.int xg), .val (.ref rb), .val (.ref rw), .val (.long vn0), .second, .val (.long vn1), .second, .unset, .unset, .unset, .unset, .unset, .unset] []))
        refine own_Go.st (fun _ kt => XS.iload X73.here hx rfl (hb hby at_220) rfl kt) ?_
        show own_Go p e below _ (T73.setTop (mkF m 222 #[.val (.long p0), .second, .val (.long p1), .second, .val (.long p2), .second, .val (.int p3), .val (.int (3 : Int32)), .val (.int xat), .val (.int (0 : Int32)), .val (.int xg), .val (.ref rb), .val (.ref rw), .val (.long vn0), .second, .val (.long vn1), .second, .unset, .unset, .unset, .unset, .unset, .unset] [(.int (3 : Int32))]))
        refine own_Go.st (fun _ kt => XS.iconst X73.here hx rfl (hb hby at_222) kt) ?_
        show own_Go p e below _ (T73.setTop (mkF m 223 #[.val (.long p0), .second, .val (.long p1), .second, .val (.long p2), .second, .val (.int p3), .val (.int (3 : Int32)), .val (.int xat), .val (.int (0 : Int32)), .val (.int xg), .val (.ref rb), .val (.ref rw), .val (.long vn0), .second, .val (.long vn1), .second, .unset, .unset, .unset, .unset, .unset, .unset] [(.int (2 : Int32)), (.int (3 : Int32))]))
        refine own_Go.st (fun _ kt => XS.icmpNo X73.here hx rfl (hb hby at_223) rfl (tlt (by decide)).2.2.2 kt) ?_
        show own_Go p e below _ (T73.setTop (mkF m 226 #[.val (.long p0), .second, .val (.long p1), .second, .val (.long p2), .second, .val (.int p3), .val (.int (3 : Int32)), .val (.int xat), .val (.int (0 : Int32)), .val (.int xg), .val (.ref rb), .val (.ref rw), .val (.long vn0), .second, .val (.long vn1), .second, .unset, .unset, .unset, .unset, .unset, .unset] []))
        refine own_Go.st (fun _ kt => XS.lload X73.here hx rfl (hb hby at_226) rfl kt) ?_
        show own_Go p e below _ (T73.setTop (mkF m 228 #[.val (.long p0), .second, .val (.long p1), .second, .val (.long p2), .second, .val (.int p3), .val (.int (3 : Int32)), .val (.int xat), .val (.int (0 : Int32)), .val (.int xg), .val (.ref rb), .val (.ref rw), .val (.long vn0), .second, .val (.long vn1), .second, .unset, .unset, .unset, .unset, .unset, .unset] [(.long p2)]))
        refine own_Go.st (fun _ kt => XS.iload X73.here hx rfl (hb hby at_228) rfl kt) ?_
        show own_Go p e below _ (T73.setTop (mkF m 230 #[.val (.long p0), .second, .val (.long p1), .second, .val (.long p2), .second, .val (.int p3), .val (.int (3 : Int32)), .val (.int xat), .val (.int (0 : Int32)), .val (.int xg), .val (.ref rb), .val (.ref rw), .val (.long vn0), .second, .val (.long vn1), .second, .unset, .unset, .unset, .unset, .unset, .unset] [(.int (0 : Int32)), (.long p2)]))
        refine own_Go.st (fun _ kt => XS.iload X73.here hx rfl (hb hby at_230) rfl kt) ?_
        show own_Go p e below _ (T73.setTop (mkF m 232 #[.val (.long p0), .second, .val (.long p1), .second, .val (.long p2), .second, .val (.int p3), .val (.int (3 : Int32)), .val (.int xat), .val (.int (0 : Int32)), .val (.int xg), .val (.ref rb), .val (.ref rw), .val (.long vn0), .second, .val (.long vn1), .second, .unset, .unset, .unset, .unset, .unset, .unset] [(.int xg), (.int (0 : Int32)), (.long p2)]))
        refine own_Go.st (fun _ kt => XS.iconst X73.here hx rfl (hb hby at_232) kt) ?_
        show own_Go p e below _ (T73.setTop (mkF m 233 #[.val (.long p0), .second, .val (.long p1), .second, .val (.long p2), .second, .val (.int p3), .val (.int (3 : Int32)), .val (.int xat), .val (.int (0 : Int32)), .val (.int xg), .val (.ref rb), .val (.ref rw), .val (.long vn0), .second, .val (.long vn1), .second, .unset, .unset, .unset, .unset, .unset, .unset] [(.int (2 : Int32)), (.int xg), (.int (0 : Int32)), (.long p2)]))
        obtain ⟨_, _, ⟨T75, L75, k75, n75⟩, -, X75, ⟨Lc75, hQ75, l75, y75, z75⟩, st75⟩ := Jvm.LawKit.callS X73 hx (y := (⟨"com/example/thicket/thicket/PackedLevelGrownVolumePinLaw", "mode", "(ZII)I"⟩ : MethodName)) hown (mvT hZ (hw _ (List.mem_of_getElem? (i := 11) rfl))) (mvT hZ (hw _ (List.mem_of_getElem? (i := 12) rfl))) (mvT hZ (hw _ (List.mem_of_getElem? (i := 13) rfl))) (mvT hZ (hw _ (List.mem_of_getElem? (i := 14) rfl))) (by decide) (backOf (W := 2) (own_mode l Z a0 hw [] (0 : Int32) xg (2 : Int32) T73.heap n0 zz74 ) hZ (hw _ (List.mem_of_getElem? (i := 14) rfl)) (hw _ (List.mem_of_getElem? (i := 13) rfl)) (by decide) (by decide)) (g := (mkF m 233 #[.val (.long p0), .second, .val (.long p1), .second, .val (.long p2), .second, .val (.int p3), .val (.int (3 : Int32)), .val (.int xat), .val (.int (0 : Int32)), .val (.int xg), .val (.ref rb), .val (.ref rw), .val (.long vn0), .second, .val (.long vn1), .second, .unset, .unset, .unset, .unset, .unset, .unset] [(.int (2 : Int32)), (.int xg), (.int (0 : Int32)), (.long p2)])) rfl (by rw [hml]; rfl) (argsL := [(.int (0 : Int32)), (.int xg), (.int (2 : Int32))]) (rest := [(.long p2)]) (lenOf own_pd1 rfl) rfl (by show 2 * 0 + _ ≤ _; exact Nat.le_of_eq rfl) (hb hby at_233) (fun _ _ => ⟨rfl, rfl, (by decide : 2 + 0 ≤ _), (by decide : 13 + 0 ≤ _)⟩)
        dsimp only [Pt.U, Pt.locs, Pt.cells, Pt.slots] at X75 l75 y75 z75 st75 hQ75
        subst l75 y75 z75
        obtain ⟨rfl, N75q, hh75⟩ := hQ75
        have N75 := Fr.app N73 N75q
        refine own_Go.st (fun _ kt => st75 _ kt) ?_
        show own_Go p e below _ (T75.setTop (mkF m 236 #[.val (.long p0), .second, .val (.long p1), .second, .val (.long p2), .second, .val (.int p3), .val (.int (3 : Int32)), .val (.int xat), .val (.int (0 : Int32)), .val (.int xg), .val (.ref rb), .val (.ref rw), .val (.long vn0), .second, .val (.long vn1), .second, .unset, .unset, .unset, .unset, .unset, .unset] [(.int (if (0 : Int32) = 0 then (0 : Int32) else if (2 : Int32) = xg then 1 else 2)), (.long p2)]))
        rw [show (if (0 : Int32) = 0 then (0 : Int32) else if (2 : Int32) = xg then 1 else 2) = (0 : Int32) from (by simp)]
        show own_Go p e below _ (T75.setTop (mkF m 236 #[.val (.long p0), .second, .val (.long p1), .second, .val (.long p2), .second, .val (.int p3), .val (.int (3 : Int32)), .val (.int xat), .val (.int (0 : Int32)), .val (.int xg), .val (.ref rb), .val (.ref rw), .val (.long vn0), .second, .val (.long vn1), .second, .unset, .unset, .unset, .unset, .unset, .unset] [(.int (0 : Int32)), (.long p2)]))
        refine own_Go.st (fun _ kt => XS.aload X75.here hx rfl (hb hby at_236) rfl rfl kt) ?_
        show own_Go p e below _ (T75.setTop (mkF m 238 #[.val (.long p0), .second, .val (.long p1), .second, .val (.long p2), .second, .val (.int p3), .val (.int (3 : Int32)), .val (.int xat), .val (.int (0 : Int32)), .val (.int xg), .val (.ref rb), .val (.ref rw), .val (.long vn0), .second, .val (.long vn1), .second, .unset, .unset, .unset, .unset, .unset, .unset] [(.ref rb), (.int (0 : Int32)), (.long p2)]))
        refine own_Go.st (fun _ kt => XS.iload X75.here hx rfl (hb hby at_238) rfl kt) ?_
        show own_Go p e below _ (T75.setTop (mkF m 240 #[.val (.long p0), .second, .val (.long p1), .second, .val (.long p2), .second, .val (.int p3), .val (.int (3 : Int32)), .val (.int xat), .val (.int (0 : Int32)), .val (.int xg), .val (.ref rb), .val (.ref rw), .val (.long vn0), .second, .val (.long vn1), .second, .unset, .unset, .unset, .unset, .unset, .unset] [(.int xat), (.ref rb), (.int (0 : Int32)), (.long p2)]))
        refine own_Go.st (fun _ kt => XS.iconst X75.here hx rfl (hb hby at_240) kt) ?_
        show own_Go p e below _ (T75.setTop (mkF m 241 #[.val (.long p0), .second, .val (.long p1), .second, .val (.long p2), .second, .val (.int p3), .val (.int (3 : Int32)), .val (.int xat), .val (.int (0 : Int32)), .val (.int xg), .val (.ref rb), .val (.ref rw), .val (.long vn0), .second, .val (.long vn1), .second, .unset, .unset, .unset, .unset, .unset, .unset] [(.int (2 : Int32)), (.int xat), (.ref rb), (.int (0 : Int32)), (.long p2)]))
        refine own_Go.st (fun _ kt => XS.iadd X75.here hx rfl (hb hby at_241) rfl kt) ?_
        show own_Go p e below _ (T75.setTop (mkF m 242 #[.val (.long p0), .second, .val (.long p1), .second, .val (.long p2), .second, .val (.int p3), .val (.int (3 : Int32)), .val (.int xat), .val (.int (0 : Int32)), .val (.int xg), .val (.ref rb), .val (.ref rw), .val (.long vn0), .second, .val (.long vn1), .second, .unset, .unset, .unset, .unset, .unset, .unset] [(.int (xat + (2 : Int32))), (.ref rb), (.int (0 : Int32)), (.long p2)]))
        refine own_Go.st (fun _ kt => XS.iload X75.here hx rfl (hb hby at_242) rfl kt) ?_
        show own_Go p e below _ (T75.setTop (mkF m 244 #[.val (.long p0), .second, .val (.long p1), .second, .val (.long p2), .second, .val (.int p3), .val (.int (3 : Int32)), .val (.int xat), .val (.int (0 : Int32)), .val (.int xg), .val (.ref rb), .val (.ref rw), .val (.long vn0), .second, .val (.long vn1), .second, .unset, .unset, .unset, .unset, .unset, .unset] [(.int xat), (.int (xat + (2 : Int32))), (.ref rb), (.int (0 : Int32)), (.long p2)]))
        refine own_Go.st (fun _ kt => XS.iload X75.here hx rfl (hb hby at_244) rfl kt) ?_
        show own_Go p e below _ (T75.setTop (mkF m 246 #[.val (.long p0), .second, .val (.long p1), .second, .val (.long p2), .second, .val (.int p3), .val (.int (3 : Int32)), .val (.int xat), .val (.int (0 : Int32)), .val (.int xg), .val (.ref rb), .val (.ref rw), .val (.long vn0), .second, .val (.long vn1), .second, .unset, .unset, .unset, .unset, .unset, .unset] [(.int (3 : Int32)), (.int xat), (.int (xat + (2 : Int32))), (.ref rb), (.int (0 : Int32)), (.long p2)]))
        refine own_Go.st (fun _ kt => XS.iadd X75.here hx rfl (hb hby at_246) rfl kt) ?_
        show own_Go p e below _ (T75.setTop (mkF m 247 #[.val (.long p0), .second, .val (.long p1), .second, .val (.long p2), .second, .val (.int p3), .val (.int (3 : Int32)), .val (.int xat), .val (.int (0 : Int32)), .val (.int xg), .val (.ref rb), .val (.ref rw), .val (.long vn0), .second, .val (.long vn1), .second, .unset, .unset, .unset, .unset, .unset, .unset] [(.int (xat + (3 : Int32))), (.int (xat + (2 : Int32))), (.ref rb), (.int (0 : Int32)), (.long p2)]))
        refine own_Go.st (fun _ kt => XS.iconst X75.here hx rfl (hb hby at_247) kt) ?_
        show own_Go p e below _ (T75.setTop (mkF m 248 #[.val (.long p0), .second, .val (.long p1), .second, .val (.long p2), .second, .val (.int p3), .val (.int (3 : Int32)), .val (.int xat), .val (.int (0 : Int32)), .val (.int xg), .val (.ref rb), .val (.ref rw), .val (.long vn0), .second, .val (.long vn1), .second, .unset, .unset, .unset, .unset, .unset, .unset] [(.int (2 : Int32)), (.int (xat + (3 : Int32))), (.int (xat + (2 : Int32))), (.ref rb), (.int (0 : Int32)), (.long p2)]))
        refine own_Go.st (fun _ kt => XS.iadd X75.here hx rfl (hb hby at_248) rfl kt) ?_
        show own_Go p e below _ (T75.setTop (mkF m 249 #[.val (.long p0), .second, .val (.long p1), .second, .val (.long p2), .second, .val (.int p3), .val (.int (3 : Int32)), .val (.int xat), .val (.int (0 : Int32)), .val (.int xg), .val (.ref rb), .val (.ref rw), .val (.long vn0), .second, .val (.long vn1), .second, .unset, .unset, .unset, .unset, .unset, .unset] [(.int ((xat + (3 : Int32)) + (2 : Int32))), (.int (xat + (2 : Int32))), (.ref rb), (.int (0 : Int32)), (.long p2)]))
        refine own_Go.st (fun _ kt => XS.aload X75.here hx rfl (hb hby at_249) rfl rfl kt) ?_
        show own_Go p e below _ (T75.setTop (mkF m 251 #[.val (.long p0), .second, .val (.long p1), .second, .val (.long p2), .second, .val (.int p3), .val (.int (3 : Int32)), .val (.int xat), .val (.int (0 : Int32)), .val (.int xg), .val (.ref rb), .val (.ref rw), .val (.long vn0), .second, .val (.long vn1), .second, .unset, .unset, .unset, .unset, .unset, .unset] [(.ref rw), (.int ((xat + (3 : Int32)) + (2 : Int32))), (.int (xat + (2 : Int32))), (.ref rb), (.int (0 : Int32)), (.long p2)]))
        refine own_Go.st (fun _ kt => XS.iconst X75.here hx rfl (hb hby at_251) kt) ?_
        show own_Go p e below _ (T75.setTop (mkF m 252 #[.val (.long p0), .second, .val (.long p1), .second, .val (.long p2), .second, .val (.int p3), .val (.int (3 : Int32)), .val (.int xat), .val (.int (0 : Int32)), .val (.int xg), .val (.ref rb), .val (.ref rw), .val (.long vn0), .second, .val (.long vn1), .second, .unset, .unset, .unset, .unset, .unset, .unset] [(.int (2 : Int32)), (.ref rw), (.int ((xat + (3 : Int32)) + (2 : Int32))), (.int (xat + (2 : Int32))), (.ref rb), (.int (0 : Int32)), (.long p2)]))
        obtain ⟨_, _, ⟨T76, L76, k76, n76⟩, -, X76, ⟨Lc76, hQ76, l76, y76, z76⟩, st76⟩ := Jvm.LawKit.callS X75 hx (y := (⟨"com/example/thicket/thicket/PackedLevelGrownVolumePinLaw", "fill", "(JI[DII[DI)J"⟩ : MethodName)) hown (mvT hZ (hw _ (List.mem_of_getElem? (i := 15) rfl))) (mvT hZ (hw _ (List.mem_of_getElem? (i := 16) rfl))) (mvT hZ (hw _ (List.mem_of_getElem? (i := 13) rfl))) (mvT hZ (hw _ (List.mem_of_getElem? (i := 17) rfl))) (by decide) (backOf (W := 0) (own_fill l Z a0 hw [] p2 (0 : Int32) rb (xat + (2 : Int32)) ((xat + (3 : Int32)) + (2 : Int32)) rw (2 : Int32) (ia + 2) (ia + 3 + 2) 2 3 fb2 fw2 T73.heap n0 zz74 ab73 aw73 ne_rb_rw n0_rb n0_rw (own_addn hat (e := 2) (by decide) (by omega) (by decide)) (own_addn (own_addn hat (e := 3) (by decide) (by omega) (by decide)) (e := 2) (by decide) (by omega) (by decide)) (by decide) (by omega) (by omega) (by decide) (by decide)) hZ (hw _ (List.mem_of_getElem? (i := 17) rfl)) (hw _ (List.mem_of_getElem? (i := 13) rfl)) (by decide) (by decide)) (g := (mkF m 252 #[.val (.long p0), .second, .val (.long p1), .second, .val (.long p2), .second, .val (.int p3), .val (.int (3 : Int32)), .val (.int xat), .val (.int (0 : Int32)), .val (.int xg), .val (.ref rb), .val (.ref rw), .val (.long vn0), .second, .val (.long vn1), .second, .unset, .unset, .unset, .unset, .unset, .unset] [(.int (2 : Int32)), (.ref rw), (.int ((xat + (3 : Int32)) + (2 : Int32))), (.int (xat + (2 : Int32))), (.ref rb), (.int (0 : Int32)), (.long p2)])) rfl (by rw [hml]; rfl) (argsL := [(.long p2), (.int (0 : Int32)), (.ref rb), (.int (xat + (2 : Int32))), (.int ((xat + (3 : Int32)) + (2 : Int32))), (.ref rw), (.int (2 : Int32))]) (rest := []) (lenOf own_pd2 rfl) rfl (by show 2 * 0 + _ ≤ _; exact Nat.le_of_eq rfl) (hb hby at_252) (fun _ _ => ⟨rfl, hh75, (by decide : 2 + 0 ≤ _), (by decide : 13 + 0 ≤ _)⟩)
        dsimp only [Pt.U, Pt.locs, Pt.cells, Pt.slots] at X76 l76 y76 z76 st76 hQ76
        subst l76 y76 z76
        obtain ⟨vn2, x2, y2, z2, G2, rfl, N76q, ex76, e276, e376, ab76, aw76, KF76⟩ := hQ76
        have N76 := Fr.app N75 N76q
        refine own_Go.st (fun _ kt => st76 _ kt) ?_
        have zz77 : n0 ≤ Array.size T76.heap := Nat.le_trans zz74 KF76.1
        show own_Go p e below _ (T76.setTop (mkF m 255 #[.val (.long p0), .second, .val (.long p1), .second, .val (.long p2), .second, .val (.int p3), .val (.int (3 : Int32)), .val (.int xat), .val (.int (0 : Int32)), .val (.int xg), .val (.ref rb), .val (.ref rw), .val (.long vn0), .second, .val (.long vn1), .second, .unset, .unset, .unset, .unset, .unset, .unset] [(.long vn2)]))
        generalize hfb3 : (fun j => if j = (ia + 3 + 2) then Value.double y2 else if j = (ia + 2) then Value.double x2 else fb2 j) = fb3 at ab76
        generalize hfw3 : (fun j => if j = 2 then Value.double z2 else fw2 j) = fw3 at aw76
        have hN2 : vn2.toInt = G2 := e376 (by decide)
        refine own_Go.st (fun _ kt => XS.goto X76.here hx rfl (pc0 := 255) (pc' := 259) rfl (hb hby at_255) (by decide) (by decide) kt) ?_
        show own_Go p e below _ (T76.setTop (mkF m 259 #[.val (.long p0), .second, .val (.long p1), .second, .val (.long p2), .second, .val (.int p3), .val (.int (3 : Int32)), .val (.int xat), .val (.int (0 : Int32)), .val (.int xg), .val (.ref rb), .val (.ref rw), .val (.long vn0), .second, .val (.long vn1), .second, .unset, .unset, .unset, .unset, .unset, .unset] [(.long vn2)]))
        refine own_Go.st (fun _ kt => XS.lstore X76.here hx rfl (hb hby at_259) rfl (l' := #[.val (.long p0), .second, .val (.long p1), .second, .val (.long p2), .second, .val (.int p3), .val (.int (3 : Int32)), .val (.int xat), .val (.int (0 : Int32)), .val (.int xg), .val (.ref rb), .val (.ref rw), .val (.long vn0), .second, .val (.long vn1), .second, .val (.long vn2), .second, .unset, .unset, .unset, .unset]) rfl kt) ?_
        show own_Go p e below _ (T76.setTop (mkF m 261 #[.val (.long p0), .second, .val (.long p1), .second, .val (.long p2), .second, .val (.int p3), .val (.int (3 : Int32)), .val (.int xat), .val (.int (0 : Int32)), .val (.int xg), .val (.ref rb), .val (.ref rw), .val (.long vn0), .second, .val (.long vn1), .second, .val (.long vn2), .second, .unset, .unset, .unset, .unset] []))
        refine own_Go.st (fun _ kt => XS.aload X76.here hx rfl (hb hby at_261) rfl rfl kt) ?_
        show own_Go p e below _ (T76.setTop (mkF m 263 #[.val (.long p0), .second, .val (.long p1), .second, .val (.long p2), .second, .val (.int p3), .val (.int (3 : Int32)), .val (.int xat), .val (.int (0 : Int32)), .val (.int xg), .val (.ref rb), .val (.ref rw), .val (.long vn0), .second, .val (.long vn1), .second, .val (.long vn2), .second, .unset, .unset, .unset, .unset] [(.ref rb)]))
        refine own_Go.st (fun _ kt => XS.iload X76.here hx rfl (hb hby at_263) rfl kt) ?_
        show own_Go p e below _ (T76.setTop (mkF m 265 #[.val (.long p0), .second, .val (.long p1), .second, .val (.long p2), .second, .val (.int p3), .val (.int (3 : Int32)), .val (.int xat), .val (.int (0 : Int32)), .val (.int xg), .val (.ref rb), .val (.ref rw), .val (.long vn0), .second, .val (.long vn1), .second, .val (.long vn2), .second, .unset, .unset, .unset, .unset] [(.int xat), (.ref rb)]))
        refine own_Go.st (fun _ kt => XS.aload X76.here hx rfl (hb hby at_265) rfl rfl kt) ?_
        show own_Go p e below _ (T76.setTop (mkF m 267 #[.val (.long p0), .second, .val (.long p1), .second, .val (.long p2), .second, .val (.int p3), .val (.int (3 : Int32)), .val (.int xat), .val (.int (0 : Int32)), .val (.int xg), .val (.ref rb), .val (.ref rw), .val (.long vn0), .second, .val (.long vn1), .second, .val (.long vn2), .second, .unset, .unset, .unset, .unset] [(.ref rw), (.int xat), (.ref rb)]))
        have fx0 : fb3 (ia + 0) = .double x0 := by
          subst hfb3 hfb2 hfb1
          dsimp only
          repeat (first | rw [if_pos (by omega)] | rw [if_neg (by omega)])
        have fy0 : fb3 (ia + 3 + 0) = .double y0 := by
          subst hfb3 hfb2 hfb1
          dsimp only
          repeat (first | rw [if_pos (by omega)] | rw [if_neg (by omega)])
        have fz0 : fw3 0 = .double z0 := by
          subst hfw3 hfw2 hfw1
          rfl
        have fx1 : fb3 (ia + 1) = .double x1 := by
          subst hfb3 hfb2 hfb1
          dsimp only
          repeat (first | rw [if_pos (by omega)] | rw [if_neg (by omega)])
        have fy1 : fb3 (ia + 3 + 1) = .double y1 := by
          subst hfb3 hfb2 hfb1
          dsimp only
          repeat (first | rw [if_pos (by omega)] | rw [if_neg (by omega)])
        have fz1 : fw3 1 = .double z1 := by
          subst hfw3 hfw2 hfw1
          rfl
        have fx2 : fb3 (ia + 2) = .double x2 := by
          subst hfb3 hfb2 hfb1
          dsimp only
          repeat (first | rw [if_pos (by omega)] | rw [if_neg (by omega)])
        have fy2 : fb3 (ia + 3 + 2) = .double y2 := by
          subst hfb3 hfb2 hfb1
          dsimp only
          repeat (first | rw [if_pos (by omega)] | rw [if_neg (by omega)])
        have fz2 : fw3 2 = .double z2 := by
          subst hfw3 hfw2 hfw1
          rfl
        have bN0 := own_nb ex70
        have bN1 := own_nb ex73
        have bN2 := own_nb ex76
        have r1 : own_Rep (G0 * G1 * ((2 ^ 1070 : Nat) : Int)) := own_rep _ _ (own_b2 bN0 bN1) (by decide)
        have r2 : own_Rep (G0 * G1 * G2 * ((2 ^ 1068 : Nat) : Int)) := own_rep _ _ (own_b3 bN0 bN1 bN2) (by decide)
        obtain ⟨_, _, ⟨T78, L78, k78, n78⟩, -, X78, ⟨Lc78, hQ78, l78, y78, z78⟩, st78⟩ := Jvm.LawKit.callS X76 hx (y := (⟨"com/example/thicket/thicket/PackedLevel", "grownVolume", "([DI[D)D"⟩ : MethodName)) hown (mvT hZ (hw _ (List.mem_of_getElem? (i := 28) rfl))) (mvT hZ (hw _ (List.mem_of_getElem? (i := 29) rfl))) (mvT hZ (hw _ (List.mem_of_getElem? (i := 30) rfl))) (mvT hZ (hw _ (List.mem_of_getElem? (i := 31) rfl))) (by decide) (backOf (W := 0) (own_gv3 l Z a0 hw [] rb xat rw ia fb3 fw3 x0 y0 z0 G0 1072 x1 y1 z1 G1 1072 x2 y2 z2 G2 1072 1070 1068 T76.heap n0 zz77 ab76 aw76 hat la ex70 (by decide) fx0 fy0 fz0 ex73 (by decide) fx1 fy1 fz1 ex76 (by decide) fx2 fy2 fz2 (by decide) (by decide) r1 r2) hZ (hw _ (List.mem_of_getElem? (i := 31) rfl)) (hw _ (List.mem_of_getElem? (i := 30) rfl)) (by decide) (by decide)) (g := (mkF m 267 #[.val (.long p0), .second, .val (.long p1), .second, .val (.long p2), .second, .val (.int p3), .val (.int (3 : Int32)), .val (.int xat), .val (.int (0 : Int32)), .val (.int xg), .val (.ref rb), .val (.ref rw), .val (.long vn0), .second, .val (.long vn1), .second, .val (.long vn2), .second, .unset, .unset, .unset, .unset] [(.ref rw), (.int xat), (.ref rb)])) rfl (by rw [hml]; rfl) (argsL := [(.ref rb), (.int xat), (.ref rw)]) (rest := []) (lenOf own_pd3 rfl) rfl (by show 2 * 0 + _ ≤ _; exact Nat.le_of_eq rfl) (hb hby at_267) (fun _ _ => ⟨rfl, rfl, (by decide : 2 + 0 ≤ _), (by decide : 13 + 0 ≤ _)⟩)
        dsimp only [Pt.U, Pt.locs, Pt.cells, Pt.slots] at X78 l78 y78 z78 st78 hQ78
        subst l78 y78 z78
        obtain ⟨d, rfl, N78q, hv78, hh78⟩ := hQ78
        have N78 := Fr.app N76 N78q
        refine own_Go.st (fun _ kt => st78 _ kt) ?_
        show own_Go p e below _ (T78.setTop (mkF m 270 #[.val (.long p0), .second, .val (.long p1), .second, .val (.long p2), .second, .val (.int p3), .val (.int (3 : Int32)), .val (.int xat), .val (.int (0 : Int32)), .val (.int xg), .val (.ref rb), .val (.ref rw), .val (.long vn0), .second, .val (.long vn1), .second, .val (.long vn2), .second, .unset, .unset, .unset, .unset] [(.double d)]))
        refine own_Go.st (fun _ kt => XS.dstore X78.here hx rfl (hb hby at_270) rfl (l' := #[.val (.long p0), .second, .val (.long p1), .second, .val (.long p2), .second, .val (.int p3), .val (.int (3 : Int32)), .val (.int xat), .val (.int (0 : Int32)), .val (.int xg), .val (.ref rb), .val (.ref rw), .val (.long vn0), .second, .val (.long vn1), .second, .val (.long vn2), .second, .val (.double d), .second, .unset, .unset]) rfl kt) ?_
        show own_Go p e below _ (T78.setTop (mkF m 272 #[.val (.long p0), .second, .val (.long p1), .second, .val (.long p2), .second, .val (.int p3), .val (.int (3 : Int32)), .val (.int xat), .val (.int (0 : Int32)), .val (.int xg), .val (.ref rb), .val (.ref rw), .val (.long vn0), .second, .val (.long vn1), .second, .val (.long vn2), .second, .val (.double d), .second, .unset, .unset] []))
        refine own_Go.st (fun _ kt => XS.iload X78.here hx rfl (hb hby at_272) rfl kt) ?_
        show own_Go p e below _ (T78.setTop (mkF m 274 #[.val (.long p0), .second, .val (.long p1), .second, .val (.long p2), .second, .val (.int p3), .val (.int (3 : Int32)), .val (.int xat), .val (.int (0 : Int32)), .val (.int xg), .val (.ref rb), .val (.ref rw), .val (.long vn0), .second, .val (.long vn1), .second, .val (.long vn2), .second, .val (.double d), .second, .unset, .unset] [(.int (0 : Int32))]))
        refine own_Go.st (fun _ kt => XS.ifYes X78.here hx rfl (pc0 := 274) (pc' := 321) rfl (hb hby at_274) rfl ((if0 _ _).trans (teq rfl).1) (by decide) (by decide) kt) ?_
        show own_Go p e below _ (T78.setTop (mkF m 321 #[.val (.long p0), .second, .val (.long p1), .second, .val (.long p2), .second, .val (.int p3), .val (.int (3 : Int32)), .val (.int xat), .val (.int (0 : Int32)), .val (.int xg), .val (.ref rb), .val (.ref rw), .val (.long vn0), .second, .val (.long vn1), .second, .val (.long vn2), .second, .val (.double d), .second, .unset, .unset] []))
        refine own_Go.st (fun _ kt => XS.iload X78.here hx rfl (hb hby at_321) rfl kt) ?_
        show own_Go p e below _ (T78.setTop (mkF m 323 #[.val (.long p0), .second, .val (.long p1), .second, .val (.long p2), .second, .val (.int p3), .val (.int (3 : Int32)), .val (.int xat), .val (.int (0 : Int32)), .val (.int xg), .val (.ref rb), .val (.ref rw), .val (.long vn0), .second, .val (.long vn1), .second, .val (.long vn2), .second, .val (.double d), .second, .unset, .unset] [(.int (3 : Int32))]))
        refine own_Go.st (fun _ kt => XS.iconst X78.here hx rfl (hb hby at_323) kt) ?_
        show own_Go p e below _ (T78.setTop (mkF m 324 #[.val (.long p0), .second, .val (.long p1), .second, .val (.long p2), .second, .val (.int p3), .val (.int (3 : Int32)), .val (.int xat), .val (.int (0 : Int32)), .val (.int xg), .val (.ref rb), .val (.ref rw), .val (.long vn0), .second, .val (.long vn1), .second, .val (.long vn2), .second, .val (.double d), .second, .unset, .unset] [(.int (1 : Int32)), (.int (3 : Int32))]))
        refine own_Go.st (fun _ kt => XS.icmpYes X78.here hx rfl (pc0 := 324) (pc' := 333) rfl (hb hby at_324) rfl (feq (by decide)).2 (by decide) (by decide) kt) ?_
        show own_Go p e below _ (T78.setTop (mkF m 333 #[.val (.long p0), .second, .val (.long p1), .second, .val (.long p2), .second, .val (.int p3), .val (.int (3 : Int32)), .val (.int xat), .val (.int (0 : Int32)), .val (.int xg), .val (.ref rb), .val (.ref rw), .val (.long vn0), .second, .val (.long vn1), .second, .val (.long vn2), .second, .val (.double d), .second, .unset, .unset] []))
        refine own_Go.st (fun _ kt => XS.iload X78.here hx rfl (hb hby at_333) rfl kt) ?_
        show own_Go p e below _ (T78.setTop (mkF m 335 #[.val (.long p0), .second, .val (.long p1), .second, .val (.long p2), .second, .val (.int p3), .val (.int (3 : Int32)), .val (.int xat), .val (.int (0 : Int32)), .val (.int xg), .val (.ref rb), .val (.ref rw), .val (.long vn0), .second, .val (.long vn1), .second, .val (.long vn2), .second, .val (.double d), .second, .unset, .unset] [(.int (3 : Int32))]))
        refine own_Go.st (fun _ kt => XS.iconst X78.here hx rfl (hb hby at_335) kt) ?_
        show own_Go p e below _ (T78.setTop (mkF m 336 #[.val (.long p0), .second, .val (.long p1), .second, .val (.long p2), .second, .val (.int p3), .val (.int (3 : Int32)), .val (.int xat), .val (.int (0 : Int32)), .val (.int xg), .val (.ref rb), .val (.ref rw), .val (.long vn0), .second, .val (.long vn1), .second, .val (.long vn2), .second, .val (.double d), .second, .unset, .unset] [(.int (2 : Int32)), (.int (3 : Int32))]))
        refine own_Go.st (fun _ kt => XS.icmpYes X78.here hx rfl (pc0 := 336) (pc' := 345) rfl (hb hby at_336) rfl (feq (by decide)).2 (by decide) (by decide) kt) ?_
        show own_Go p e below _ (T78.setTop (mkF m 345 #[.val (.long p0), .second, .val (.long p1), .second, .val (.long p2), .second, .val (.int p3), .val (.int (3 : Int32)), .val (.int xat), .val (.int (0 : Int32)), .val (.int xg), .val (.ref rb), .val (.ref rw), .val (.long vn0), .second, .val (.long vn1), .second, .val (.long vn2), .second, .val (.double d), .second, .unset, .unset] []))
        refine own_Go.st (fun _ kt => X78.ldc2DoubleC hx hown (mvT hZ (hw _ (List.mem_of_getElem? (i := 33) rfl))) (g := (mkF m 345 #[.val (.long p0), .second, .val (.long p1), .second, .val (.long p2), .second, .val (.int p3), .val (.int (3 : Int32)), .val (.int xat), .val (.int (0 : Int32)), .val (.int xg), .val (.ref rb), .val (.ref rw), .val (.long vn0), .second, .val (.long vn1), .second, .val (.long vn2), .second, .val (.double d), .second, .unset, .unset] [])) rfl (hb hby at_345) _ kt) ?_
        show own_Go p e below _ (T78.setTop (mkF m 348 #[.val (.long p0), .second, .val (.long p1), .second, .val (.long p2), .second, .val (.int p3), .val (.int (3 : Int32)), .val (.int xat), .val (.int (0 : Int32)), .val (.int xg), .val (.ref rb), .val (.ref rw), .val (.long vn0), .second, .val (.long vn1), .second, .val (.long vn2), .second, .val (.double d), .second, .unset, .unset] [(.double (4634204016564240384 : UInt64))]))
        refine own_Go.st (fun _ kt => XS.dstore X78.here hx rfl (hb hby at_348) rfl (l' := #[.val (.long p0), .second, .val (.long p1), .second, .val (.long p2), .second, .val (.int p3), .val (.int (3 : Int32)), .val (.int xat), .val (.int (0 : Int32)), .val (.int xg), .val (.ref rb), .val (.ref rw), .val (.long vn0), .second, .val (.long vn1), .second, .val (.long vn2), .second, .val (.double d), .second, .val (.double (4634204016564240384 : UInt64)), .second]) rfl kt) ?_
        show own_Go p e below _ (T78.setTop (mkF m 350 #[.val (.long p0), .second, .val (.long p1), .second, .val (.long p2), .second, .val (.int p3), .val (.int (3 : Int32)), .val (.int xat), .val (.int (0 : Int32)), .val (.int xg), .val (.ref rb), .val (.ref rw), .val (.long vn0), .second, .val (.long vn1), .second, .val (.long vn2), .second, .val (.double d), .second, .val (.double (4634204016564240384 : UInt64)), .second] []))
        refine own_Go.st (fun _ kt => XS.dload X78.here hx rfl (hb hby at_350) rfl kt) ?_
        show own_Go p e below _ (T78.setTop (mkF m 352 #[.val (.long p0), .second, .val (.long p1), .second, .val (.long p2), .second, .val (.int p3), .val (.int (3 : Int32)), .val (.int xat), .val (.int (0 : Int32)), .val (.int xg), .val (.ref rb), .val (.ref rw), .val (.long vn0), .second, .val (.long vn1), .second, .val (.long vn2), .second, .val (.double d), .second, .val (.double (4634204016564240384 : UInt64)), .second] [(.double d)]))
        refine own_Go.st (fun _ kt => XS.dload X78.here hx rfl (hb hby at_352) rfl kt) ?_
        show own_Go p e below _ (T78.setTop (mkF m 354 #[.val (.long p0), .second, .val (.long p1), .second, .val (.long p2), .second, .val (.int p3), .val (.int (3 : Int32)), .val (.int xat), .val (.int (0 : Int32)), .val (.int xg), .val (.ref rb), .val (.ref rw), .val (.long vn0), .second, .val (.long vn1), .second, .val (.long vn2), .second, .val (.double d), .second, .val (.double (4634204016564240384 : UInt64)), .second] [(.double (4634204016564240384 : UInt64)), (.double d)]))
        have hm := own_mulP (D := 1068) hv78 own_D64 (by decide) (by rw [own_sc3]; exact own_rep _ _ (own_b3 bN0 bN1 bN2) (by decide))
        refine own_Go.st (fun _ kt => XS.dmulS X78.here hx rfl (hb hby at_354) rfl (hm.n64) rfl kt) ?_
        show own_Go p e below _ (T78.setTop (mkF m 355 #[.val (.long p0), .second, .val (.long p1), .second, .val (.long p2), .second, .val (.int p3), .val (.int (3 : Int32)), .val (.int xat), .val (.int (0 : Int32)), .val (.int xg), .val (.ref rb), .val (.ref rw), .val (.long vn0), .second, .val (.long vn1), .second, .val (.long vn2), .second, .val (.double d), .second, .val (.double (4634204016564240384 : UInt64)), .second] [(.double (FP.dmul d (4634204016564240384 : UInt64)))]))
        refine own_Go.st (fun _ kt => XS.lload X78.here hx rfl (hb hby at_355) rfl kt) ?_
        show own_Go p e below _ (T78.setTop (mkF m 357 #[.val (.long p0), .second, .val (.long p1), .second, .val (.long p2), .second, .val (.int p3), .val (.int (3 : Int32)), .val (.int xat), .val (.int (0 : Int32)), .val (.int xg), .val (.ref rb), .val (.ref rw), .val (.long vn0), .second, .val (.long vn1), .second, .val (.long vn2), .second, .val (.double d), .second, .val (.double (4634204016564240384 : UInt64)), .second] [(.long vn0), (.double (FP.dmul d (4634204016564240384 : UInt64)))]))
        refine own_Go.st (fun _ kt => XS.lload X78.here hx rfl (hb hby at_357) rfl kt) ?_
        show own_Go p e below _ (T78.setTop (mkF m 359 #[.val (.long p0), .second, .val (.long p1), .second, .val (.long p2), .second, .val (.int p3), .val (.int (3 : Int32)), .val (.int xat), .val (.int (0 : Int32)), .val (.int xg), .val (.ref rb), .val (.ref rw), .val (.long vn0), .second, .val (.long vn1), .second, .val (.long vn2), .second, .val (.double d), .second, .val (.double (4634204016564240384 : UInt64)), .second] [(.long vn1), (.long vn0), (.double (FP.dmul d (4634204016564240384 : UInt64)))]))
        refine own_Go.st (fun _ kt => XS.lmul X78.here hx rfl (hb hby at_359) rfl kt) ?_
        show own_Go p e below _ (T78.setTop (mkF m 360 #[.val (.long p0), .second, .val (.long p1), .second, .val (.long p2), .second, .val (.int p3), .val (.int (3 : Int32)), .val (.int xat), .val (.int (0 : Int32)), .val (.int xg), .val (.ref rb), .val (.ref rw), .val (.long vn0), .second, .val (.long vn1), .second, .val (.long vn2), .second, .val (.double d), .second, .val (.double (4634204016564240384 : UInt64)), .second] [(.long (vn0 * vn1)), (.double (FP.dmul d (4634204016564240384 : UInt64)))]))
        refine own_Go.st (fun _ kt => XS.lload X78.here hx rfl (hb hby at_360) rfl kt) ?_
        show own_Go p e below _ (T78.setTop (mkF m 362 #[.val (.long p0), .second, .val (.long p1), .second, .val (.long p2), .second, .val (.int p3), .val (.int (3 : Int32)), .val (.int xat), .val (.int (0 : Int32)), .val (.int xg), .val (.ref rb), .val (.ref rw), .val (.long vn0), .second, .val (.long vn1), .second, .val (.long vn2), .second, .val (.double d), .second, .val (.double (4634204016564240384 : UInt64)), .second] [(.long vn2), (.long (vn0 * vn1)), (.double (FP.dmul d (4634204016564240384 : UInt64)))]))
        refine own_Go.st (fun _ kt => XS.lmul X78.here hx rfl (hb hby at_362) rfl kt) ?_
        show own_Go p e below _ (T78.setTop (mkF m 363 #[.val (.long p0), .second, .val (.long p1), .second, .val (.long p2), .second, .val (.int p3), .val (.int (3 : Int32)), .val (.int xat), .val (.int (0 : Int32)), .val (.int xg), .val (.ref rb), .val (.ref rw), .val (.long vn0), .second, .val (.long vn1), .second, .val (.long vn2), .second, .val (.double d), .second, .val (.double (4634204016564240384 : UInt64)), .second] [(.long ((vn0 * vn1) * vn2)), (.double (FP.dmul d (4634204016564240384 : UInt64)))]))
        have hp : (((vn0 * vn1) * vn2)).toInt = G0 * G1 * G2 := own_mul3 hN0 hN1 hN2 bN0 bN1 bN2
        have hl := own_l2d (a := ((vn0 * vn1) * vn2)) (by rw [hp]; exact Nat.le_of_lt (own_b3 bN0 bN1 bN2))
        rw [hp] at hl
        refine own_Go.st (fun _ kt => XS.l2dS X78.here hx rfl (hb hby at_363) rfl rfl kt) ?_
        show own_Go p e below _ (T78.setTop (mkF m 364 #[.val (.long p0), .second, .val (.long p1), .second, .val (.long p2), .second, .val (.int p3), .val (.int (3 : Int32)), .val (.int xat), .val (.int (0 : Int32)), .val (.int xg), .val (.ref rb), .val (.ref rw), .val (.long vn0), .second, .val (.long vn1), .second, .val (.long vn2), .second, .val (.double d), .second, .val (.double (4634204016564240384 : UInt64)), .second] [(.double (FP.l2d ((vn0 * vn1) * vn2))), (.double (FP.dmul d (4634204016564240384 : UInt64)))]))
        have heq : G0 * G1 * G2 * 64 * ((2 ^ 1068 : Nat) : Int) = G0 * G1 * G2 * ((2 ^ 1074 : Nat) : Int) := own_sc3 _
        rw [heq] at hm
        refine own_Go.st (fun _ kt => XS.dcmpS X78.here hx rfl (hb hby at_364) rfl (own_deq hm hl _) kt) ?_
        show own_Go p e below _ (T78.setTop (mkF m 365 #[.val (.long p0), .second, .val (.long p1), .second, .val (.long p2), .second, .val (.int p3), .val (.int (3 : Int32)), .val (.int xat), .val (.int (0 : Int32)), .val (.int xg), .val (.ref rb), .val (.ref rw), .val (.long vn0), .second, .val (.long vn1), .second, .val (.long vn2), .second, .val (.double d), .second, .val (.double (4634204016564240384 : UInt64)), .second] [(.int (0 : Int32))]))
        refine own_Go.st (fun _ kt => XS.ifNo X78.here hx rfl (hb hby at_365) rfl ((if0 _ _).trans (teq rfl).2) kt) ?_
        show own_Go p e below _ (T78.setTop (mkF m 368 #[.val (.long p0), .second, .val (.long p1), .second, .val (.long p2), .second, .val (.int p3), .val (.int (3 : Int32)), .val (.int xat), .val (.int (0 : Int32)), .val (.int xg), .val (.ref rb), .val (.ref rw), .val (.long vn0), .second, .val (.long vn1), .second, .val (.long vn2), .second, .val (.double d), .second, .val (.double (4634204016564240384 : UInt64)), .second] []))
        refine own_Go.st (fun _ kt => XS.iconst X78.here hx rfl (hb hby at_368) kt) ?_
        show own_Go p e below _ (T78.setTop (mkF m 369 #[.val (.long p0), .second, .val (.long p1), .second, .val (.long p2), .second, .val (.int p3), .val (.int (3 : Int32)), .val (.int xat), .val (.int (0 : Int32)), .val (.int xg), .val (.ref rb), .val (.ref rw), .val (.long vn0), .second, .val (.long vn1), .second, .val (.long vn2), .second, .val (.double d), .second, .val (.double (4634204016564240384 : UInt64)), .second] [(.int (1 : Int32))]))
        refine own_Go.st (fun _ kt => XS.goto X78.here hx rfl (pc0 := 369) (pc' := 373) rfl (hb hby at_369) (by decide) (by decide) kt) ?_
        show own_Go p e below _ (T78.setTop (mkF m 373 #[.val (.long p0), .second, .val (.long p1), .second, .val (.long p2), .second, .val (.int p3), .val (.int (3 : Int32)), .val (.int xat), .val (.int (0 : Int32)), .val (.int xg), .val (.ref rb), .val (.ref rw), .val (.long vn0), .second, .val (.long vn1), .second, .val (.long vn2), .second, .val (.double d), .second, .val (.double (4634204016564240384 : UInt64)), .second] [(.int (1 : Int32))]))
        exact own_retZ X78 hx Bd.notSynchronized Bd.returns (Or.inr rfl) (hb hby at_373) (by decide) (by decide) ⟨rfl, N78⟩
      · show own_Go p e below _ (T22.setTop (mkF m 128 #[.val (.long p0), .second, .val (.long p1), .second, .val (.long p2), .second, .val (.int p3), .val (.int (3 : Int32)), .val (.int xat), .val (.int (1 : Int32)), .val (.int xg), .val (.ref rb), .unset, .unset, .unset, .unset, .unset, .unset, .unset, .unset, .unset, .unset, .unset] [(.int (1 : Int32)), (.int (3 : Int32))]))
        obtain ⟨ig, hig, lig⟩ := own_ax ((p3.toUInt32 >>> ((5 : Int32) &&& 31).toUInt32).toInt32) 3 3 (by decide) (by decide)
        rw [hxg] at hig
        refine own_Go.st (fun _ kt => XS.icmpYes X22.here hx rfl (pc0 := 128) (pc' := 137) rfl (hb hby at_128) rfl (feq (by decide)).2 (by decide) (by decide) kt) ?_
        show own_Go p e below _ (T22.setTop (mkF m 137 #[.val (.long p0), .second, .val (.long p1), .second, .val (.long p2), .second, .val (.int p3), .val (.int (3 : Int32)), .val (.int xat), .val (.int (1 : Int32)), .val (.int xg), .val (.ref rb), .unset, .unset, .unset, .unset, .unset, .unset, .unset, .unset, .unset, .unset, .unset] []))
        refine own_Go.st (fun _ kt => XS.iload X22.here hx rfl (hb hby at_137) rfl kt) ?_
        show own_Go p e below _ (T22.setTop (mkF m 139 #[.val (.long p0), .second, .val (.long p1), .second, .val (.long p2), .second, .val (.int p3), .val (.int (3 : Int32)), .val (.int xat), .val (.int (1 : Int32)), .val (.int xg), .val (.ref rb), .unset, .unset, .unset, .unset, .unset, .unset, .unset, .unset, .unset, .unset, .unset] [(.int (3 : Int32))]))
        refine own_Go.st (fun _ kt => XS.iconst X22.here hx rfl (hb hby at_139) kt) ?_
        show own_Go p e below _ (T22.setTop (mkF m 140 #[.val (.long p0), .second, .val (.long p1), .second, .val (.long p2), .second, .val (.int p3), .val (.int (3 : Int32)), .val (.int xat), .val (.int (1 : Int32)), .val (.int xg), .val (.ref rb), .unset, .unset, .unset, .unset, .unset, .unset, .unset, .unset, .unset, .unset, .unset] [(.int (2 : Int32)), (.int (3 : Int32))]))
        refine own_Go.st (fun _ kt => XS.icmpYes X22.here hx rfl (pc0 := 140) (pc' := 149) rfl (hb hby at_140) rfl (feq (by decide)).2 (by decide) (by decide) kt) ?_
        show own_Go p e below _ (T22.setTop (mkF m 149 #[.val (.long p0), .second, .val (.long p1), .second, .val (.long p2), .second, .val (.int p3), .val (.int (3 : Int32)), .val (.int xat), .val (.int (1 : Int32)), .val (.int xg), .val (.ref rb), .unset, .unset, .unset, .unset, .unset, .unset, .unset, .unset, .unset, .unset, .unset] []))
        refine own_Go.st (fun _ kt => XS.iconst X22.here hx rfl (hb hby at_149) kt) ?_
        show own_Go p e below _ (T22.setTop (mkF m 150 #[.val (.long p0), .second, .val (.long p1), .second, .val (.long p2), .second, .val (.int p3), .val (.int (3 : Int32)), .val (.int xat), .val (.int (1 : Int32)), .val (.int xg), .val (.ref rb), .unset, .unset, .unset, .unset, .unset, .unset, .unset, .unset, .unset, .unset, .unset] [(.int (3 : Int32))]))
        obtain ⟨T79, h79, k79, X79, e79, E79, A79, st79⟩ := newP X22 hx hZ (hw _ (List.mem_of_getElem? (i := 0) rfl)) e22 (g := (mkF m 150 #[.val (.long p0), .second, .val (.long p1), .second, .val (.long p2), .second, .val (.int p3), .val (.int (3 : Int32)), .val (.int xat), .val (.int (1 : Int32)), .val (.int xg), .val (.ref rb), .unset, .unset, .unset, .unset, .unset, .unset, .unset, .unset, .unset, .unset, .unset] [(.int (3 : Int32))])) rfl (hb hby at_150) rfl (by decide) (cap := 3) (by decide) (by decide) (by decide) (by decide)
        obtain ⟨rw, g79⟩ : ∃ z, z = Array.size h22 := ⟨_, rfl⟩
        rw [← g79] at A79 st79
        refine own_Go.st st79 ?_
        have ne_rb_rw : rb ≠ rw := Nat.ne_of_lt (Nat.lt_of_lt_of_le (ab).lt (Nat.le_of_eq g79.symm))
        have n0_rw : n0 ≤ rw := Nat.le_trans zz23 (Nat.le_of_eq g79.symm)
        have zz80 : n0 ≤ Array.size h79 := Nat.le_trans zz23 E79.1
        show own_Go p e below _ (T79.setTop (mkF m 152 #[.val (.long p0), .second, .val (.long p1), .second, .val (.long p2), .second, .val (.int p3), .val (.int (3 : Int32)), .val (.int xat), .val (.int (1 : Int32)), .val (.int xg), .val (.ref rb), .unset, .unset, .unset, .unset, .unset, .unset, .unset, .unset, .unset, .unset, .unset] [(.ref rw)]))
        obtain ⟨fw, aw⟩ : ∃ fw, own_Ar Z h79 rw .double 3 fw := ⟨_, own_Ar.new A79 (by decide)⟩
        refine own_Go.st (fun _ kt => XS.astore X79.here hx rfl (hb hby at_152) rfl rfl (l' := #[.val (.long p0), .second, .val (.long p1), .second, .val (.long p2), .second, .val (.int p3), .val (.int (3 : Int32)), .val (.int xat), .val (.int (1 : Int32)), .val (.int xg), .val (.ref rb), .val (.ref rw), .unset, .unset, .unset, .unset, .unset, .unset, .unset, .unset, .unset, .unset]) rfl kt) ?_
        show own_Go p e below _ (T79.setTop (mkF m 154 #[.val (.long p0), .second, .val (.long p1), .second, .val (.long p2), .second, .val (.int p3), .val (.int (3 : Int32)), .val (.int xat), .val (.int (1 : Int32)), .val (.int xg), .val (.ref rb), .val (.ref rw), .unset, .unset, .unset, .unset, .unset, .unset, .unset, .unset, .unset, .unset] []))
        refine own_Go.st (fun _ kt => XS.lloadN X79.here hx rfl (hb hby at_154) rfl kt) ?_
        show own_Go p e below _ (T79.setTop (mkF m 155 #[.val (.long p0), .second, .val (.long p1), .second, .val (.long p2), .second, .val (.int p3), .val (.int (3 : Int32)), .val (.int xat), .val (.int (1 : Int32)), .val (.int xg), .val (.ref rb), .val (.ref rw), .unset, .unset, .unset, .unset, .unset, .unset, .unset, .unset, .unset, .unset] [(.long p0)]))
        refine own_Go.st (fun _ kt => XS.iload X79.here hx rfl (hb hby at_155) rfl kt) ?_
        show own_Go p e below _ (T79.setTop (mkF m 157 #[.val (.long p0), .second, .val (.long p1), .second, .val (.long p2), .second, .val (.int p3), .val (.int (3 : Int32)), .val (.int xat), .val (.int (1 : Int32)), .val (.int xg), .val (.ref rb), .val (.ref rw), .unset, .unset, .unset, .unset, .unset, .unset, .unset, .unset, .unset, .unset] [(.int (1 : Int32)), (.long p0)]))
        refine own_Go.st (fun _ kt => XS.iload X79.here hx rfl (hb hby at_157) rfl kt) ?_
        show own_Go p e below _ (T79.setTop (mkF m 159 #[.val (.long p0), .second, .val (.long p1), .second, .val (.long p2), .second, .val (.int p3), .val (.int (3 : Int32)), .val (.int xat), .val (.int (1 : Int32)), .val (.int xg), .val (.ref rb), .val (.ref rw), .unset, .unset, .unset, .unset, .unset, .unset, .unset, .unset, .unset, .unset] [(.int xg), (.int (1 : Int32)), (.long p0)]))
        refine own_Go.st (fun _ kt => XS.iconst X79.here hx rfl (hb hby at_159) kt) ?_
        show own_Go p e below _ (T79.setTop (mkF m 160 #[.val (.long p0), .second, .val (.long p1), .second, .val (.long p2), .second, .val (.int p3), .val (.int (3 : Int32)), .val (.int xat), .val (.int (1 : Int32)), .val (.int xg), .val (.ref rb), .val (.ref rw), .unset, .unset, .unset, .unset, .unset, .unset, .unset, .unset, .unset, .unset] [(.int (0 : Int32)), (.int xg), (.int (1 : Int32)), (.long p0)]))
        have hg : xg = 0 ∨ xg = 1 ∨ xg = 2 := by
          have : ig = 0 ∨ ig = 1 ∨ ig = 2 := by omega
          rcases this with rfl | rfl | rfl
          · exact Or.inl (own_lit xg 0 hig (by decide))
          · exact Or.inr (Or.inl (own_lit xg 1 hig (by decide)))
          · exact Or.inr (Or.inr (own_lit xg 2 hig (by decide)))
        rcases hg with rfl | rfl | rfl
        · show own_Go p e below _ (T79.setTop (mkF m 160 #[.val (.long p0), .second, .val (.long p1), .second, .val (.long p2), .second, .val (.int p3), .val (.int (3 : Int32)), .val (.int xat), .val (.int (1 : Int32)), .val (.int (0 : Int32)), .val (.ref rb), .val (.ref rw), .unset, .unset, .unset, .unset, .unset, .unset, .unset, .unset, .unset, .unset] [(.int (0 : Int32)), (.int (0 : Int32)), (.int (1 : Int32)), (.long p0)]))
          obtain ⟨_, _, ⟨T81, L81, k81, n81⟩, -, X81, ⟨Lc81, hQ81, l81, y81, z81⟩, st81⟩ := Jvm.LawKit.callS X79 hx (y := (⟨"com/example/thicket/thicket/PackedLevelGrownVolumePinLaw", "mode", "(ZII)I"⟩ : MethodName)) hown (mvT hZ (hw _ (List.mem_of_getElem? (i := 11) rfl))) (mvT hZ (hw _ (List.mem_of_getElem? (i := 12) rfl))) (mvT hZ (hw _ (List.mem_of_getElem? (i := 13) rfl))) (mvT hZ (hw _ (List.mem_of_getElem? (i := 14) rfl))) (by decide) (backOf (W := 2) (own_mode l Z a0 hw [] (1 : Int32) (0 : Int32) (0 : Int32) h79 n0 zz80 ) hZ (hw _ (List.mem_of_getElem? (i := 14) rfl)) (hw _ (List.mem_of_getElem? (i := 13) rfl)) (by decide) (by decide)) (g := (mkF m 160 #[.val (.long p0), .second, .val (.long p1), .second, .val (.long p2), .second, .val (.int p3), .val (.int (3 : Int32)), .val (.int xat), .val (.int (1 : Int32)), .val (.int (0 : Int32)), .val (.ref rb), .val (.ref rw), .unset, .unset, .unset, .unset, .unset, .unset, .unset, .unset, .unset, .unset] [(.int (0 : Int32)), (.int (0 : Int32)), (.int (1 : Int32)), (.long p0)])) rfl (by rw [hml]; rfl) (argsL := [(.int (1 : Int32)), (.int (0 : Int32)), (.int (0 : Int32))]) (rest := [(.long p0)]) (lenOf own_pd1 rfl) rfl (by show 2 * 0 + _ ≤ _; exact Nat.le_of_eq rfl) (hb hby at_160) (fun _ _ => ⟨rfl, e79, (by decide : 2 + 0 ≤ _), (by decide : 13 + 0 ≤ _)⟩)
          dsimp only [Pt.U, Pt.locs, Pt.cells, Pt.slots] at X81 l81 y81 z81 st81 hQ81
          subst l81 y81 z81
          obtain ⟨rfl, N81q, hh81⟩ := hQ81
          have N81 := Fr.app N22 N81q
          refine own_Go.st (fun _ kt => st81 _ kt) ?_
          show own_Go p e below _ (T81.setTop (mkF m 163 #[.val (.long p0), .second, .val (.long p1), .second, .val (.long p2), .second, .val (.int p3), .val (.int (3 : Int32)), .val (.int xat), .val (.int (1 : Int32)), .val (.int (0 : Int32)), .val (.ref rb), .val (.ref rw), .unset, .unset, .unset, .unset, .unset, .unset, .unset, .unset, .unset, .unset] [(.int (if (1 : Int32) = 0 then (0 : Int32) else if (0 : Int32) = (0 : Int32) then 1 else 2)), (.long p0)]))
          rw [show (if (1 : Int32) = 0 then (0 : Int32) else if (0 : Int32) = (0 : Int32) then 1 else 2) = (1 : Int32) from (by decide)]
          show own_Go p e below _ (T81.setTop (mkF m 163 #[.val (.long p0), .second, .val (.long p1), .second, .val (.long p2), .second, .val (.int p3), .val (.int (3 : Int32)), .val (.int xat), .val (.int (1 : Int32)), .val (.int (0 : Int32)), .val (.ref rb), .val (.ref rw), .unset, .unset, .unset, .unset, .unset, .unset, .unset, .unset, .unset, .unset] [(.int (1 : Int32)), (.long p0)]))
          refine own_Go.st (fun _ kt => XS.aload X81.here hx rfl (hb hby at_163) rfl rfl kt) ?_
          show own_Go p e below _ (T81.setTop (mkF m 165 #[.val (.long p0), .second, .val (.long p1), .second, .val (.long p2), .second, .val (.int p3), .val (.int (3 : Int32)), .val (.int xat), .val (.int (1 : Int32)), .val (.int (0 : Int32)), .val (.ref rb), .val (.ref rw), .unset, .unset, .unset, .unset, .unset, .unset, .unset, .unset, .unset, .unset] [(.ref rb), (.int (1 : Int32)), (.long p0)]))
          refine own_Go.st (fun _ kt => XS.iload X81.here hx rfl (hb hby at_165) rfl kt) ?_
          show own_Go p e below _ (T81.setTop (mkF m 167 #[.val (.long p0), .second, .val (.long p1), .second, .val (.long p2), .second, .val (.int p3), .val (.int (3 : Int32)), .val (.int xat), .val (.int (1 : Int32)), .val (.int (0 : Int32)), .val (.ref rb), .val (.ref rw), .unset, .unset, .unset, .unset, .unset, .unset, .unset, .unset, .unset, .unset] [(.int xat), (.ref rb), (.int (1 : Int32)), (.long p0)]))
          refine own_Go.st (fun _ kt => XS.iload X81.here hx rfl (hb hby at_167) rfl kt) ?_
          show own_Go p e below _ (T81.setTop (mkF m 169 #[.val (.long p0), .second, .val (.long p1), .second, .val (.long p2), .second, .val (.int p3), .val (.int (3 : Int32)), .val (.int xat), .val (.int (1 : Int32)), .val (.int (0 : Int32)), .val (.ref rb), .val (.ref rw), .unset, .unset, .unset, .unset, .unset, .unset, .unset, .unset, .unset, .unset] [(.int xat), (.int xat), (.ref rb), (.int (1 : Int32)), (.long p0)]))
          refine own_Go.st (fun _ kt => XS.iload X81.here hx rfl (hb hby at_169) rfl kt) ?_
          show own_Go p e below _ (T81.setTop (mkF m 171 #[.val (.long p0), .second, .val (.long p1), .second, .val (.long p2), .second, .val (.int p3), .val (.int (3 : Int32)), .val (.int xat), .val (.int (1 : Int32)), .val (.int (0 : Int32)), .val (.ref rb), .val (.ref rw), .unset, .unset, .unset, .unset, .unset, .unset, .unset, .unset, .unset, .unset] [(.int (3 : Int32)), (.int xat), (.int xat), (.ref rb), (.int (1 : Int32)), (.long p0)]))
          refine own_Go.st (fun _ kt => XS.iadd X81.here hx rfl (hb hby at_171) rfl kt) ?_
          show own_Go p e below _ (T81.setTop (mkF m 172 #[.val (.long p0), .second, .val (.long p1), .second, .val (.long p2), .second, .val (.int p3), .val (.int (3 : Int32)), .val (.int xat), .val (.int (1 : Int32)), .val (.int (0 : Int32)), .val (.ref rb), .val (.ref rw), .unset, .unset, .unset, .unset, .unset, .unset, .unset, .unset, .unset, .unset] [(.int (xat + (3 : Int32))), (.int xat), (.ref rb), (.int (1 : Int32)), (.long p0)]))
          refine own_Go.st (fun _ kt => XS.aload X81.here hx rfl (hb hby at_172) rfl rfl kt) ?_
          show own_Go p e below _ (T81.setTop (mkF m 174 #[.val (.long p0), .second, .val (.long p1), .second, .val (.long p2), .second, .val (.int p3), .val (.int (3 : Int32)), .val (.int xat), .val (.int (1 : Int32)), .val (.int (0 : Int32)), .val (.ref rb), .val (.ref rw), .unset, .unset, .unset, .unset, .unset, .unset, .unset, .unset, .unset, .unset] [(.ref rw), (.int (xat + (3 : Int32))), (.int xat), (.ref rb), (.int (1 : Int32)), (.long p0)]))
          refine own_Go.st (fun _ kt => XS.iconst X81.here hx rfl (hb hby at_174) kt) ?_
          show own_Go p e below _ (T81.setTop (mkF m 175 #[.val (.long p0), .second, .val (.long p1), .second, .val (.long p2), .second, .val (.int p3), .val (.int (3 : Int32)), .val (.int xat), .val (.int (1 : Int32)), .val (.int (0 : Int32)), .val (.ref rb), .val (.ref rw), .unset, .unset, .unset, .unset, .unset, .unset, .unset, .unset, .unset, .unset] [(.int (0 : Int32)), (.ref rw), (.int (xat + (3 : Int32))), (.int xat), (.ref rb), (.int (1 : Int32)), (.long p0)]))
          have f82 := (ab.ext E79)
          obtain ⟨_, _, ⟨T83, L83, k83, n83⟩, -, X83, ⟨Lc83, hQ83, l83, y83, z83⟩, st83⟩ := Jvm.LawKit.callS X81 hx (y := (⟨"com/example/thicket/thicket/PackedLevelGrownVolumePinLaw", "fill", "(JI[DII[DI)J"⟩ : MethodName)) hown (mvT hZ (hw _ (List.mem_of_getElem? (i := 15) rfl))) (mvT hZ (hw _ (List.mem_of_getElem? (i := 16) rfl))) (mvT hZ (hw _ (List.mem_of_getElem? (i := 13) rfl))) (mvT hZ (hw _ (List.mem_of_getElem? (i := 17) rfl))) (by decide) (backOf (W := 0) (own_fill l Z a0 hw [] p0 (1 : Int32) rb xat (xat + (3 : Int32)) rw (0 : Int32) ia (ia + 3) 0 3 fb fw h79 n0 zz80 f82 aw ne_rb_rw n0_rb n0_rw hat (own_addn hat (e := 3) (by decide) (by omega) (by decide)) (by decide) (by omega) (by omega) (by decide) (by decide)) hZ (hw _ (List.mem_of_getElem? (i := 17) rfl)) (hw _ (List.mem_of_getElem? (i := 13) rfl)) (by decide) (by decide)) (g := (mkF m 175 #[.val (.long p0), .second, .val (.long p1), .second, .val (.long p2), .second, .val (.int p3), .val (.int (3 : Int32)), .val (.int xat), .val (.int (1 : Int32)), .val (.int (0 : Int32)), .val (.ref rb), .val (.ref rw), .unset, .unset, .unset, .unset, .unset, .unset, .unset, .unset, .unset, .unset] [(.int (0 : Int32)), (.ref rw), (.int (xat + (3 : Int32))), (.int xat), (.ref rb), (.int (1 : Int32)), (.long p0)])) rfl (by rw [hml]; rfl) (argsL := [(.long p0), (.int (1 : Int32)), (.ref rb), (.int xat), (.int (xat + (3 : Int32))), (.ref rw), (.int (0 : Int32))]) (rest := []) (lenOf own_pd2 rfl) rfl (by show 2 * 0 + _ ≤ _; exact Nat.le_of_eq rfl) (hb hby at_175) (fun _ _ => ⟨rfl, hh81, (by decide : 2 + 0 ≤ _), (by decide : 13 + 0 ≤ _)⟩)
          dsimp only [Pt.U, Pt.locs, Pt.cells, Pt.slots] at X83 l83 y83 z83 st83 hQ83
          subst l83 y83 z83
          obtain ⟨vn0, x0, y0, z0, G0, rfl, N83q, ex83, e283, e383, ab83, aw83, KF83⟩ := hQ83
          have N83 := Fr.app N81 N83q
          refine own_Go.st (fun _ kt => st83 _ kt) ?_
          have zz84 : n0 ≤ Array.size T83.heap := Nat.le_trans zz80 KF83.1
          show own_Go p e below _ (T83.setTop (mkF m 178 #[.val (.long p0), .second, .val (.long p1), .second, .val (.long p2), .second, .val (.int p3), .val (.int (3 : Int32)), .val (.int xat), .val (.int (1 : Int32)), .val (.int (0 : Int32)), .val (.ref rb), .val (.ref rw), .unset, .unset, .unset, .unset, .unset, .unset, .unset, .unset, .unset, .unset] [(.long vn0)]))
          generalize hfb1 : (fun j => if j = (ia + 3) then Value.double y0 else if j = ia then Value.double x0 else fb j) = fb1 at ab83
          generalize hfw1 : (fun j => if j = 0 then Value.double z0 else fw j) = fw1 at aw83
          have hN0 : vn0.toInt = G0 := e383 (by decide)
          refine own_Go.st (fun _ kt => XS.lstore X83.here hx rfl (hb hby at_178) rfl (l' := #[.val (.long p0), .second, .val (.long p1), .second, .val (.long p2), .second, .val (.int p3), .val (.int (3 : Int32)), .val (.int xat), .val (.int (1 : Int32)), .val (.int (0 : Int32)), .val (.ref rb), .val (.ref rw), .val (.long vn0), .second, .unset, .unset, .unset, .unset, .unset, .unset, .unset, .unset]) rfl kt) ?_
          show own_Go p e below _ (T83.setTop (mkF m 180 #[.val (.long p0), .second, .val (.long p1), .second, .val (.long p2), .second, .val (.int p3), .val (.int (3 : Int32)), .val (.int xat), .val (.int (1 : Int32)), .val (.int (0 : Int32)), .val (.ref rb), .val (.ref rw), .val (.long vn0), .second, .unset, .unset, .unset, .unset, .unset, .unset, .unset, .unset] []))
          refine own_Go.st (fun _ kt => XS.iload X83.here hx rfl (hb hby at_180) rfl kt) ?_
          show own_Go p e below _ (T83.setTop (mkF m 182 #[.val (.long p0), .second, .val (.long p1), .second, .val (.long p2), .second, .val (.int p3), .val (.int (3 : Int32)), .val (.int xat), .val (.int (1 : Int32)), .val (.int (0 : Int32)), .val (.ref rb), .val (.ref rw), .val (.long vn0), .second, .unset, .unset, .unset, .unset, .unset, .unset, .unset, .unset] [(.int (3 : Int32))]))
          refine own_Go.st (fun _ kt => XS.iconst X83.here hx rfl (hb hby at_182) kt) ?_
          show own_Go p e below _ (T83.setTop (mkF m 183 #[.val (.long p0), .second, .val (.long p1), .second, .val (.long p2), .second, .val (.int p3), .val (.int (3 : Int32)), .val (.int xat), .val (.int (1 : Int32)), .val (.int (0 : Int32)), .val (.ref rb), .val (.ref rw), .val (.long vn0), .second, .unset, .unset, .unset, .unset, .unset, .unset, .unset, .unset] [(.int (1 : Int32)), (.int (3 : Int32))]))
          refine own_Go.st (fun _ kt => XS.icmpNo X83.here hx rfl (hb hby at_183) rfl (tlt (by decide)).2.2.2 kt) ?_
          show own_Go p e below _ (T83.setTop (mkF m 186 #[.val (.long p0), .second, .val (.long p1), .second, .val (.long p2), .second, .val (.int p3), .val (.int (3 : Int32)), .val (.int xat), .val (.int (1 : Int32)), .val (.int (0 : Int32)), .val (.ref rb), .val (.ref rw), .val (.long vn0), .second, .unset, .unset, .unset, .unset, .unset, .unset, .unset, .unset] []))
          refine own_Go.st (fun _ kt => XS.lloadN X83.here hx rfl (hb hby at_186) rfl kt) ?_
          show own_Go p e below _ (T83.setTop (mkF m 187 #[.val (.long p0), .second, .val (.long p1), .second, .val (.long p2), .second, .val (.int p3), .val (.int (3 : Int32)), .val (.int xat), .val (.int (1 : Int32)), .val (.int (0 : Int32)), .val (.ref rb), .val (.ref rw), .val (.long vn0), .second, .unset, .unset, .unset, .unset, .unset, .unset, .unset, .unset] [(.long p1)]))
          refine own_Go.st (fun _ kt => XS.iload X83.here hx rfl (hb hby at_187) rfl kt) ?_
          show own_Go p e below _ (T83.setTop (mkF m 189 #[.val (.long p0), .second, .val (.long p1), .second, .val (.long p2), .second, .val (.int p3), .val (.int (3 : Int32)), .val (.int xat), .val (.int (1 : Int32)), .val (.int (0 : Int32)), .val (.ref rb), .val (.ref rw), .val (.long vn0), .second, .unset, .unset, .unset, .unset, .unset, .unset, .unset, .unset] [(.int (1 : Int32)), (.long p1)]))
          refine own_Go.st (fun _ kt => XS.iload X83.here hx rfl (hb hby at_189) rfl kt) ?_
          show own_Go p e below _ (T83.setTop (mkF m 191 #[.val (.long p0), .second, .val (.long p1), .second, .val (.long p2), .second, .val (.int p3), .val (.int (3 : Int32)), .val (.int xat), .val (.int (1 : Int32)), .val (.int (0 : Int32)), .val (.ref rb), .val (.ref rw), .val (.long vn0), .second, .unset, .unset, .unset, .unset, .unset, .unset, .unset, .unset] [(.int (0 : Int32)), (.int (1 : Int32)), (.long p1)]))
          refine own_Go.st (fun _ kt => XS.iconst X83.here hx rfl (hb hby at_191) kt) ?_
          show own_Go p e below _ (T83.setTop (mkF m 192 #[.val (.long p0), .second, .val (.long p1), .second, .val (.long p2), .second, .val (.int p3), .val (.int (3 : Int32)), .val (.int xat), .val (.int (1 : Int32)), .val (.int (0 : Int32)), .val (.ref rb), .val (.ref rw), .val (.long vn0), .second, .unset, .unset, .unset, .unset, .unset, .unset, .unset, .unset] [(.int (1 : Int32)), (.int (0 : Int32)), (.int (1 : Int32)), (.long p1)]))
          obtain ⟨_, _, ⟨T85, L85, k85, n85⟩, -, X85, ⟨Lc85, hQ85, l85, y85, z85⟩, st85⟩ := Jvm.LawKit.callS X83 hx (y := (⟨"com/example/thicket/thicket/PackedLevelGrownVolumePinLaw", "mode", "(ZII)I"⟩ : MethodName)) hown (mvT hZ (hw _ (List.mem_of_getElem? (i := 11) rfl))) (mvT hZ (hw _ (List.mem_of_getElem? (i := 12) rfl))) (mvT hZ (hw _ (List.mem_of_getElem? (i := 13) rfl))) (mvT hZ (hw _ (List.mem_of_getElem? (i := 14) rfl))) (by decide) (backOf (W := 2) (own_mode l Z a0 hw [] (1 : Int32) (0 : Int32) (1 : Int32) T83.heap n0 zz84 ) hZ (hw _ (List.mem_of_getElem? (i := 14) rfl)) (hw _ (List.mem_of_getElem? (i := 13) rfl)) (by decide) (by decide)) (g := (mkF m 192 #[.val (.long p0), .second, .val (.long p1), .second, .val (.long p2), .second, .val (.int p3), .val (.int (3 : Int32)), .val (.int xat), .val (.int (1 : Int32)), .val (.int (0 : Int32)), .val (.ref rb), .val (.ref rw), .val (.long vn0), .second, .unset, .unset, .unset, .unset, .unset, .unset, .unset, .unset] [(.int (1 : Int32)), (.int (0 : Int32)), (.int (1 : Int32)), (.long p1)])) rfl (by rw [hml]; rfl) (argsL := [(.int (1 : Int32)), (.int (0 : Int32)), (.int (1 : Int32))]) (rest := [(.long p1)]) (lenOf own_pd1 rfl) rfl (by show 2 * 0 + _ ≤ _; exact Nat.le_of_eq rfl) (hb hby at_192) (fun _ _ => ⟨rfl, rfl, (by decide : 2 + 0 ≤ _), (by decide : 13 + 0 ≤ _)⟩)
          dsimp only [Pt.U, Pt.locs, Pt.cells, Pt.slots] at X85 l85 y85 z85 st85 hQ85
          subst l85 y85 z85
          obtain ⟨rfl, N85q, hh85⟩ := hQ85
          have N85 := Fr.app N83 N85q
          refine own_Go.st (fun _ kt => st85 _ kt) ?_
          show own_Go p e below _ (T85.setTop (mkF m 195 #[.val (.long p0), .second, .val (.long p1), .second, .val (.long p2), .second, .val (.int p3), .val (.int (3 : Int32)), .val (.int xat), .val (.int (1 : Int32)), .val (.int (0 : Int32)), .val (.ref rb), .val (.ref rw), .val (.long vn0), .second, .unset, .unset, .unset, .unset, .unset, .unset, .unset, .unset] [(.int (if (1 : Int32) = 0 then (0 : Int32) else if (1 : Int32) = (0 : Int32) then 1 else 2)), (.long p1)]))
          rw [show (if (1 : Int32) = 0 then (0 : Int32) else if (1 : Int32) = (0 : Int32) then 1 else 2) = (2 : Int32) from (by decide)]
          show own_Go p e below _ (T85.setTop (mkF m 195 #[.val (.long p0), .second, .val (.long p1), .second, .val (.long p2), .second, .val (.int p3), .val (.int (3 : Int32)), .val (.int xat), .val (.int (1 : Int32)), .val (.int (0 : Int32)), .val (.ref rb), .val (.ref rw), .val (.long vn0), .second, .unset, .unset, .unset, .unset, .unset, .unset, .unset, .unset] [(.int (2 : Int32)), (.long p1)]))
          refine own_Go.st (fun _ kt => XS.aload X85.here hx rfl (hb hby at_195) rfl rfl kt) ?_
          show own_Go p e below _ (T85.setTop (mkF m 197 #[.val (.long p0), .second, .val (.long p1), .second, .val (.long p2), .second, .val (.int p3), .val (.int (3 : Int32)), .val (.int xat), .val (.int (1 : Int32)), .val (.int (0 : Int32)), .val (.ref rb), .val (.ref rw), .val (.long vn0), .second, .unset, .unset, .unset, .unset, .unset, .unset, .unset, .unset] [(.ref rb), (.int (2 : Int32)), (.long p1)]))
          refine own_Go.st (fun _ kt => XS.iload X85.here hx rfl (hb hby at_197) rfl kt) ?_
          show own_Go p e below _ (T85.setTop (mkF m 199 #[.val (.long p0), .second, .val (.long p1), .second, .val (.long p2), .second, .val (.int p3), .val (.int (3 : Int32)), .val (.int xat), .val (.int (1 : Int32)), .val (.int (0 : Int32)), .val (.ref rb), .val (.ref rw), .val (.long vn0), .second, .unset, .unset, .unset, .unset, .unset, .unset, .unset, .unset] [(.int xat), (.ref rb), (.int (2 : Int32)), (.long p1)]))
          refine own_Go.st (fun _ kt => XS.iconst X85.here hx rfl (hb hby at_199) kt) ?_
          show own_Go p e below _ (T85.setTop (mkF m 200 #[.val (.long p0), .second, .val (.long p1), .second, .val (.long p2), .second, .val (.int p3), .val (.int (3 : Int32)), .val (.int xat), .val (.int (1 : Int32)), .val (.int (0 : Int32)), .val (.ref rb), .val (.ref rw), .val (.long vn0), .second, .unset, .unset, .unset, .unset, .unset, .unset, .unset, .unset] [(.int (1 : Int32)), (.int xat), (.ref rb), (.int (2 : Int32)), (.long p1)]))
          refine own_Go.st (fun _ kt => XS.iadd X85.here hx rfl (hb hby at_200) rfl kt) ?_
          show own_Go p e below _ (T85.setTop (mkF m 201 #[.val (.long p0), .second, .val (.long p1), .second, .val (.long p2), .second, .val (.int p3), .val (.int (3 : Int32)), .val (.int xat), .val (.int (1 : Int32)), .val (.int (0 : Int32)), .val (.ref rb), .val (.ref rw), .val (.long vn0), .second, .unset, .unset, .unset, .unset, .unset, .unset, .unset, .unset] [(.int (xat + (1 : Int32))), (.ref rb), (.int (2 : Int32)), (.long p1)]))
          refine own_Go.st (fun _ kt => XS.iload X85.here hx rfl (hb hby at_201) rfl kt) ?_
          show own_Go p e below _ (T85.setTop (mkF m 203 #[.val (.long p0), .second, .val (.long p1), .second, .val (.long p2), .second, .val (.int p3), .val (.int (3 : Int32)), .val (.int xat), .val (.int (1 : Int32)), .val (.int (0 : Int32)), .val (.ref rb), .val (.ref rw), .val (.long vn0), .second, .unset, .unset, .unset, .unset, .unset, .unset, .unset, .unset] [(.int xat), (.int (xat + (1 : Int32))), (.ref rb), (.int (2 : Int32)), (.long p1)]))
          refine own_Go.st (fun _ kt => XS.iload X85.here hx rfl (hb hby at_203) rfl kt) ?_
          show own_Go p e below _ (T85.setTop (mkF m 205 #[.val (.long p0), .second, .val (.long p1), .second, .val (.long p2), .second, .val (.int p3), .val (.int (3 : Int32)), .val (.int xat), .val (.int (1 : Int32)), .val (.int (0 : Int32)), .val (.ref rb), .val (.ref rw), .val (.long vn0), .second, .unset, .unset, .unset, .unset, .unset, .unset, .unset, .unset] [(.int (3 : Int32)), (.int xat), (.int (xat + (1 : Int32))), (.ref rb), (.int (2 : Int32)), (.long p1)]))
          refine own_Go.st (fun _ kt => XS.iadd X85.here hx rfl (hb hby at_205) rfl kt) ?_
          show own_Go p e below _ (T85.setTop (mkF m 206 #[.val (.long p0), .second, .val (.long p1), .second, .val (.long p2), .second, .val (.int p3), .val (.int (3 : Int32)), .val (.int xat), .val (.int (1 : Int32)), .val (.int (0 : Int32)), .val (.ref rb), .val (.ref rw), .val (.long vn0), .second, .unset, .unset, .unset, .unset, .unset, .unset, .unset, .unset] [(.int (xat + (3 : Int32))), (.int (xat + (1 : Int32))), (.ref rb), (.int (2 : Int32)), (.long p1)]))
          refine own_Go.st (fun _ kt => XS.iconst X85.here hx rfl (hb hby at_206) kt) ?_
          show own_Go p e below _ (T85.setTop (mkF m 207 #[.val (.long p0), .second, .val (.long p1), .second, .val (.long p2), .second, .val (.int p3), .val (.int (3 : Int32)), .val (.int xat), .val (.int (1 : Int32)), .val (.int (0 : Int32)), .val (.ref rb), .val (.ref rw), .val (.long vn0), .second, .unset, .unset, .unset, .unset, .unset, .unset, .unset, .unset] [(.int (1 : Int32)), (.int (xat + (3 : Int32))), (.int (xat + (1 : Int32))), (.ref rb), (.int (2 : Int32)), (.long p1)]))
          refine own_Go.st (fun _ kt => XS.iadd X85.here hx rfl (hb hby at_207) rfl kt) ?_
          show own_Go p e below _ (T85.setTop (mkF m 208 #[.val (.long p0), .second, .val (.long p1), .second, .val (.long p2), .second, .val (.int p3), .val (.int (3 : Int32)), .val (.int xat), .val (.int (1 : Int32)), .val (.int (0 : Int32)), .val (.ref rb), .val (.ref rw), .val (.long vn0), .second, .unset, .unset, .unset, .unset, .unset, .unset, .unset, .unset] [(.int ((xat + (3 : Int32)) + (1 : Int32))), (.int (xat + (1 : Int32))), (.ref rb), (.int (2 : Int32)), (.long p1)]))
          refine own_Go.st (fun _ kt => XS.aload X85.here hx rfl (hb hby at_208) rfl rfl kt) ?_
          show own_Go p e below _ (T85.setTop (mkF m 210 #[.val (.long p0), .second, .val (.long p1), .second, .val (.long p2), .second, .val (.int p3), .val (.int (3 : Int32)), .val (.int xat), .val (.int (1 : Int32)), .val (.int (0 : Int32)), .val (.ref rb), .val (.ref rw), .val (.long vn0), .second, .unset, .unset, .unset, .unset, .unset, .unset, .unset, .unset] [(.ref rw), (.int ((xat + (3 : Int32)) + (1 : Int32))), (.int (xat + (1 : Int32))), (.ref rb), (.int (2 : Int32)), (.long p1)]))
          refine own_Go.st (fun _ kt => XS.iconst X85.here hx rfl (hb hby at_210) kt) ?_
          show own_Go p e below _ (T85.setTop (mkF m 211 #[.val (.long p0), .second, .val (.long p1), .second, .val (.long p2), .second, .val (.int p3), .val (.int (3 : Int32)), .val (.int xat), .val (.int (1 : Int32)), .val (.int (0 : Int32)), .val (.ref rb), .val (.ref rw), .val (.long vn0), .second, .unset, .unset, .unset, .unset, .unset, .unset, .unset, .unset] [(.int (1 : Int32)), (.ref rw), (.int ((xat + (3 : Int32)) + (1 : Int32))), (.int (xat + (1 : Int32))), (.ref rb), (.int (2 : Int32)), (.long p1)]))
          obtain ⟨_, _, ⟨T86, L86, k86, n86⟩, -, X86, ⟨Lc86, hQ86, l86, y86, z86⟩, st86⟩ := Jvm.LawKit.callS X85 hx (y := (⟨"com/example/thicket/thicket/PackedLevelGrownVolumePinLaw", "fill", "(JI[DII[DI)J"⟩ : MethodName)) hown (mvT hZ (hw _ (List.mem_of_getElem? (i := 15) rfl))) (mvT hZ (hw _ (List.mem_of_getElem? (i := 16) rfl))) (mvT hZ (hw _ (List.mem_of_getElem? (i := 13) rfl))) (mvT hZ (hw _ (List.mem_of_getElem? (i := 17) rfl))) (by decide) (backOf (W := 0) (own_fill l Z a0 hw [] p1 (2 : Int32) rb (xat + (1 : Int32)) ((xat + (3 : Int32)) + (1 : Int32)) rw (1 : Int32) (ia + 1) (ia + 3 + 1) 1 3 fb1 fw1 T83.heap n0 zz84 ab83 aw83 ne_rb_rw n0_rb n0_rw (own_addn hat (e := 1) (by decide) (by omega) (by decide)) (own_addn (own_addn hat (e := 3) (by decide) (by omega) (by decide)) (e := 1) (by decide) (by omega) (by decide)) (by decide) (by omega) (by omega) (by decide) (by decide)) hZ (hw _ (List.mem_of_getElem? (i := 17) rfl)) (hw _ (List.mem_of_getElem? (i := 13) rfl)) (by decide) (by decide)) (g := (mkF m 211 #[.val (.long p0), .second, .val (.long p1), .second, .val (.long p2), .second, .val (.int p3), .val (.int (3 : Int32)), .val (.int xat), .val (.int (1 : Int32)), .val (.int (0 : Int32)), .val (.ref rb), .val (.ref rw), .val (.long vn0), .second, .unset, .unset, .unset, .unset, .unset, .unset, .unset, .unset] [(.int (1 : Int32)), (.ref rw), (.int ((xat + (3 : Int32)) + (1 : Int32))), (.int (xat + (1 : Int32))), (.ref rb), (.int (2 : Int32)), (.long p1)])) rfl (by rw [hml]; rfl) (argsL := [(.long p1), (.int (2 : Int32)), (.ref rb), (.int (xat + (1 : Int32))), (.int ((xat + (3 : Int32)) + (1 : Int32))), (.ref rw), (.int (1 : Int32))]) (rest := []) (lenOf own_pd2 rfl) rfl (by show 2 * 0 + _ ≤ _; exact Nat.le_of_eq rfl) (hb hby at_211) (fun _ _ => ⟨rfl, hh85, (by decide : 2 + 0 ≤ _), (by decide : 13 + 0 ≤ _)⟩)
          dsimp only [Pt.U, Pt.locs, Pt.cells, Pt.slots] at X86 l86 y86 z86 st86 hQ86
          subst l86 y86 z86
          obtain ⟨vn1, x1, y1, z1, G1, rfl, N86q, ex86, e286, e386, ab86, aw86, KF86⟩ := hQ86
          have N86 := Fr.app N85 N86q
          refine own_Go.st (fun _ kt => st86 _ kt) ?_
          have zz87 : n0 ≤ Array.size T86.heap := Nat.le_trans zz84 KF86.1
          show own_Go p e below _ (T86.setTop (mkF m 214 #[.val (.long p0), .second, .val (.long p1), .second, .val (.long p2), .second, .val (.int p3), .val (.int (3 : Int32)), .val (.int xat), .val (.int (1 : Int32)), .val (.int (0 : Int32)), .val (.ref rb), .val (.ref rw), .val (.long vn0), .second, .unset, .unset, .unset, .unset, .unset, .unset, .unset, .unset] [(.long vn1)]))
          generalize hfb2 : (fun j => if j = (ia + 3 + 1) then Value.double y1 else if j = (ia + 1) then Value.double x1 else fb1 j) = fb2 at ab86
          generalize hfw2 : (fun j => if j = 1 then Value.double z1 else fw1 j) = fw2 at aw86
          obtain ⟨rfl, rfl⟩ := e286 rfl
          show own_Go p e below _ (T86.setTop (mkF m 214 #[.val (.long p0), .second, .val (.long p1), .second, .val (.long p2), .second, .val (.int p3), .val (.int (3 : Int32)), .val (.int xat), .val (.int (1 : Int32)), .val (.int (0 : Int32)), .val (.ref rb), .val (.ref rw), .val (.long vn0), .second, .unset, .unset, .unset, .unset, .unset, .unset, .unset, .unset] [(.long (1 : Int64))]))
          refine own_Go.st (fun _ kt => XS.goto X86.here hx rfl (pc0 := 214) (pc' := 218) rfl (hb hby at_214) (by decide) (by decide) kt) ?_
          show own_Go p e below _ (T86.setTop (mkF m 218 #[.val (.long p0), .second, .val (.long p1), .second, .val (.long p2), .second, .val (.int p3), .val (.int (3 : Int32)), .val (.int xat), .val (.int (1 : Int32)), .val (.int (0 : Int32)), .val (.ref rb), .val (.ref rw), .val (.long vn0), .second, .unset, .unset, .unset, .unset, .unset, .unset, .unset, .unset] [(.long (1 : Int64))]))
          refine own_Go.st (fun _ kt => XS.lstore X86.here hx rfl (hb hby at_218) rfl (l' := #[.val (.long p0), .second, .val (.long p1), .second, .val (.long p2), .second, .val (.int p3), .val (.int (3 : Int32)), .val (.int xat), .val (.int (1 : Int32)), .val (.int (0 : Int32)), .val (.ref rb), .val (.ref rw), .val (.long vn0), .second, .val (.long (1 : Int64)), .second, .unset, .unset, .unset, .unset, .unset, .unset]) rfl kt) ?_
          show own_Go p e below _ (T86.setTop (mkF m 220 #[.val (.long p0), .second, .val (.long p1), .second, .val (.long p2), .second, .val (.int p3), .val (.int (3 : Int32)), .val (.int xat), .val (.int (1 : Int32)), .val (.int (0 : Int32)), .val (.ref rb), .val (.ref rw), .val (.long vn0), .second, .val (.long (1 : Int64)), .second, .unset, .unset, .unset, .unset, .unset, .unset] []))
          refine own_Go.st (fun _ kt => XS.iload X86.here hx rfl (hb hby at_220) rfl kt) ?_
          show own_Go p e below _ (T86.setTop (mkF m 222 #[.val (.long p0), .second, .val (.long p1), .second, .val (.long p2), .second, .val (.int p3), .val (.int (3 : Int32)), .val (.int xat), .val (.int (1 : Int32)), .val (.int (0 : Int32)), .val (.ref rb), .val (.ref rw), .val (.long vn0), .second, .val (.long (1 : Int64)), .second, .unset, .unset, .unset, .unset, .unset, .unset] [(.int (3 : Int32))]))
          refine own_Go.st (fun _ kt => XS.iconst X86.here hx rfl (hb hby at_222) kt) ?_
          show own_Go p e below _ (T86.setTop (mkF m 223 #[.val (.long p0), .second, .val (.long p1), .second, .val (.long p2), .second, .val (.int p3), .val (.int (3 : Int32)), .val (.int xat), .val (.int (1 : Int32)), .val (.int (0 : Int32)), .val (.ref rb), .val (.ref rw), .val (.long vn0), .second, .val (.long (1 : Int64)), .second, .unset, .unset, .unset, .unset, .unset, .unset] [(.int (2 : Int32)), (.int (3 : Int32))]))
          refine own_Go.st (fun _ kt => XS.icmpNo X86.here hx rfl (hb hby at_223) rfl (tlt (by decide)).2.2.2 kt) ?_
          show own_Go p e below _ (T86.setTop (mkF m 226 #[.val (.long p0), .second, .val (.long p1), .second, .val (.long p2), .second, .val (.int p3), .val (.int (3 : Int32)), .val (.int xat), .val (.int (1 : Int32)), .val (.int (0 : Int32)), .val (.ref rb), .val (.ref rw), .val (.long vn0), .second, .val (.long (1 : Int64)), .second, .unset, .unset, .unset, .unset, .unset, .unset] []))
          refine own_Go.st (fun _ kt => XS.lload X86.here hx rfl (hb hby at_226) rfl kt) ?_
          show own_Go p e below _ (T86.setTop (mkF m 228 #[.val (.long p0), .second, .val (.long p1), .second, .val (.long p2), .second, .val (.int p3), .val (.int (3 : Int32)), .val (.int xat), .val (.int (1 : Int32)), .val (.int (0 : Int32)), .val (.ref rb), .val (.ref rw), .val (.long vn0), .second, .val (.long (1 : Int64)), .second, .unset, .unset, .unset, .unset, .unset, .unset] [(.long p2)]))
          refine own_Go.st (fun _ kt => XS.iload X86.here hx rfl (hb hby at_228) rfl kt) ?_
          show own_Go p e below _ (T86.setTop (mkF m 230 #[.val (.long p0), .second, .val (.long p1), .second, .val (.long p2), .second, .val (.int p3), .val (.int (3 : Int32)), .val (.int xat), .val (.int (1 : Int32)), .val (.int (0 : Int32)), .val (.ref rb), .val (.ref rw), .val (.long vn0), .second, .val (.long (1 : Int64)), .second, .unset, .unset, .unset, .unset, .unset, .unset] [(.int (1 : Int32)), (.long p2)]))
          refine own_Go.st (fun _ kt => XS.iload X86.here hx rfl (hb hby at_230) rfl kt) ?_
          show own_Go p e below _ (T86.setTop (mkF m 232 #[.val (.long p0), .second, .val (.long p1), .second, .val (.long p2), .second, .val (.int p3), .val (.int (3 : Int32)), .val (.int xat), .val (.int (1 : Int32)), .val (.int (0 : Int32)), .val (.ref rb), .val (.ref rw), .val (.long vn0), .second, .val (.long (1 : Int64)), .second, .unset, .unset, .unset, .unset, .unset, .unset] [(.int (0 : Int32)), (.int (1 : Int32)), (.long p2)]))
          refine own_Go.st (fun _ kt => XS.iconst X86.here hx rfl (hb hby at_232) kt) ?_
          show own_Go p e below _ (T86.setTop (mkF m 233 #[.val (.long p0), .second, .val (.long p1), .second, .val (.long p2), .second, .val (.int p3), .val (.int (3 : Int32)), .val (.int xat), .val (.int (1 : Int32)), .val (.int (0 : Int32)), .val (.ref rb), .val (.ref rw), .val (.long vn0), .second, .val (.long (1 : Int64)), .second, .unset, .unset, .unset, .unset, .unset, .unset] [(.int (2 : Int32)), (.int (0 : Int32)), (.int (1 : Int32)), (.long p2)]))
          obtain ⟨_, _, ⟨T88, L88, k88, n88⟩, -, X88, ⟨Lc88, hQ88, l88, y88, z88⟩, st88⟩ := Jvm.LawKit.callS X86 hx (y := (⟨"com/example/thicket/thicket/PackedLevelGrownVolumePinLaw", "mode", "(ZII)I"⟩ : MethodName)) hown (mvT hZ (hw _ (List.mem_of_getElem? (i := 11) rfl))) (mvT hZ (hw _ (List.mem_of_getElem? (i := 12) rfl))) (mvT hZ (hw _ (List.mem_of_getElem? (i := 13) rfl))) (mvT hZ (hw _ (List.mem_of_getElem? (i := 14) rfl))) (by decide) (backOf (W := 2) (own_mode l Z a0 hw [] (1 : Int32) (0 : Int32) (2 : Int32) T86.heap n0 zz87 ) hZ (hw _ (List.mem_of_getElem? (i := 14) rfl)) (hw _ (List.mem_of_getElem? (i := 13) rfl)) (by decide) (by decide)) (g := (mkF m 233 #[.val (.long p0), .second, .val (.long p1), .second, .val (.long p2), .second, .val (.int p3), .val (.int (3 : Int32)), .val (.int xat), .val (.int (1 : Int32)), .val (.int (0 : Int32)), .val (.ref rb), .val (.ref rw), .val (.long vn0), .second, .val (.long (1 : Int64)), .second, .unset, .unset, .unset, .unset, .unset, .unset] [(.int (2 : Int32)), (.int (0 : Int32)), (.int (1 : Int32)), (.long p2)])) rfl (by rw [hml]; rfl) (argsL := [(.int (1 : Int32)), (.int (0 : Int32)), (.int (2 : Int32))]) (rest := [(.long p2)]) (lenOf own_pd1 rfl) rfl (by show 2 * 0 + _ ≤ _; exact Nat.le_of_eq rfl) (hb hby at_233) (fun _ _ => ⟨rfl, rfl, (by decide : 2 + 0 ≤ _), (by decide : 13 + 0 ≤ _)⟩)
          dsimp only [Pt.U, Pt.locs, Pt.cells, Pt.slots] at X88 l88 y88 z88 st88 hQ88
          subst l88 y88 z88
          obtain ⟨rfl, N88q, hh88⟩ := hQ88
          have N88 := Fr.app N86 N88q
          refine own_Go.st (fun _ kt => st88 _ kt) ?_
          show own_Go p e below _ (T88.setTop (mkF m 236 #[.val (.long p0), .second, .val (.long p1), .second, .val (.long p2), .second, .val (.int p3), .val (.int (3 : Int32)), .val (.int xat), .val (.int (1 : Int32)), .val (.int (0 : Int32)), .val (.ref rb), .val (.ref rw), .val (.long vn0), .second, .val (.long (1 : Int64)), .second, .unset, .unset, .unset, .unset, .unset, .unset] [(.int (if (1 : Int32) = 0 then (0 : Int32) else if (2 : Int32) = (0 : Int32) then 1 else 2)), (.long p2)]))
          rw [show (if (1 : Int32) = 0 then (0 : Int32) else if (2 : Int32) = (0 : Int32) then 1 else 2) = (2 : Int32) from (by decide)]
          show own_Go p e below _ (T88.setTop (mkF m 236 #[.val (.long p0), .second, .val (.long p1), .second, .val (.long p2), .second, .val (.int p3), .val (.int (3 : Int32)), .val (.int xat), .val (.int (1 : Int32)), .val (.int (0 : Int32)), .val (.ref rb), .val (.ref rw), .val (.long vn0), .second, .val (.long (1 : Int64)), .second, .unset, .unset, .unset, .unset, .unset, .unset] [(.int (2 : Int32)), (.long p2)]))
          refine own_Go.st (fun _ kt => XS.aload X88.here hx rfl (hb hby at_236) rfl rfl kt) ?_
          show own_Go p e below _ (T88.setTop (mkF m 238 #[.val (.long p0), .second, .val (.long p1), .second, .val (.long p2), .second, .val (.int p3), .val (.int (3 : Int32)), .val (.int xat), .val (.int (1 : Int32)), .val (.int (0 : Int32)), .val (.ref rb), .val (.ref rw), .val (.long vn0), .second, .val (.long (1 : Int64)), .second, .unset, .unset, .unset, .unset, .unset, .unset] [(.ref rb), (.int (2 : Int32)), (.long p2)]))
          refine own_Go.st (fun _ kt => XS.iload X88.here hx rfl (hb hby at_238) rfl kt) ?_
          show own_Go p e below _ (T88.setTop (mkF m 240 #[.val (.long p0), .second, .val (.long p1), .second, .val (.long p2), .second, .val (.int p3), .val (.int (3 : Int32)), .val (.int xat), .val (.int (1 : Int32)), .val (.int (0 : Int32)), .val (.ref rb), .val (.ref rw), .val (.long vn0), .second, .val (.long (1 : Int64)), .second, .unset, .unset, .unset, .unset, .unset, .unset] [(.int xat), (.ref rb), (.int (2 : Int32)), (.long p2)]))
          refine own_Go.st (fun _ kt => XS.iconst X88.here hx rfl (hb hby at_240) kt) ?_
          show own_Go p e below _ (T88.setTop (mkF m 241 #[.val (.long p0), .second, .val (.long p1), .second, .val (.long p2), .second, .val (.int p3), .val (.int (3 : Int32)), .val (.int xat), .val (.int (1 : Int32)), .val (.int (0 : Int32)), .val (.ref rb), .val (.ref rw), .val (.long vn0), .second, .val (.long (1 : Int64)), .second, .unset, .unset, .unset, .unset, .unset, .unset] [(.int (2 : Int32)), (.int xat), (.ref rb), (.int (2 : Int32)), (.long p2)]))
          refine own_Go.st (fun _ kt => XS.iadd X88.here hx rfl (hb hby at_241) rfl kt) ?_
          show own_Go p e below _ (T88.setTop (mkF m 242 #[.val (.long p0), .second, .val (.long p1), .second, .val (.long p2), .second, .val (.int p3), .val (.int (3 : Int32)), .val (.int xat), .val (.int (1 : Int32)), .val (.int (0 : Int32)), .val (.ref rb), .val (.ref rw), .val (.long vn0), .second, .val (.long (1 : Int64)), .second, .unset, .unset, .unset, .unset, .unset, .unset] [(.int (xat + (2 : Int32))), (.ref rb), (.int (2 : Int32)), (.long p2)]))
          refine own_Go.st (fun _ kt => XS.iload X88.here hx rfl (hb hby at_242) rfl kt) ?_
          show own_Go p e below _ (T88.setTop (mkF m 244 #[.val (.long p0), .second, .val (.long p1), .second, .val (.long p2), .second, .val (.int p3), .val (.int (3 : Int32)), .val (.int xat), .val (.int (1 : Int32)), .val (.int (0 : Int32)), .val (.ref rb), .val (.ref rw), .val (.long vn0), .second, .val (.long (1 : Int64)), .second, .unset, .unset, .unset, .unset, .unset, .unset] [(.int xat), (.int (xat + (2 : Int32))), (.ref rb), (.int (2 : Int32)), (.long p2)]))
          refine own_Go.st (fun _ kt => XS.iload X88.here hx rfl (hb hby at_244) rfl kt) ?_
          show own_Go p e below _ (T88.setTop (mkF m 246 #[.val (.long p0), .second, .val (.long p1), .second, .val (.long p2), .second, .val (.int p3), .val (.int (3 : Int32)), .val (.int xat), .val (.int (1 : Int32)), .val (.int (0 : Int32)), .val (.ref rb), .val (.ref rw), .val (.long vn0), .second, .val (.long (1 : Int64)), .second, .unset, .unset, .unset, .unset, .unset, .unset] [(.int (3 : Int32)), (.int xat), (.int (xat + (2 : Int32))), (.ref rb), (.int (2 : Int32)), (.long p2)]))
          refine own_Go.st (fun _ kt => XS.iadd X88.here hx rfl (hb hby at_246) rfl kt) ?_
          show own_Go p e below _ (T88.setTop (mkF m 247 #[.val (.long p0), .second, .val (.long p1), .second, .val (.long p2), .second, .val (.int p3), .val (.int (3 : Int32)), .val (.int xat), .val (.int (1 : Int32)), .val (.int (0 : Int32)), .val (.ref rb), .val (.ref rw), .val (.long vn0), .second, .val (.long (1 : Int64)), .second, .unset, .unset, .unset, .unset, .unset, .unset] [(.int (xat + (3 : Int32))), (.int (xat + (2 : Int32))), (.ref rb), (.int (2 : Int32)), (.long p2)]))
          refine own_Go.st (fun _ kt => XS.iconst X88.here hx rfl (hb hby at_247) kt) ?_
          show own_Go p e below _ (T88.setTop (mkF m 248 #[.val (.long p0), .second, .val (.long p1), .second, .val (.long p2), .second, .val (.int p3), .val (.int (3 : Int32)), .val (.int xat), .val (.int (1 : Int32)), .val (.int (0 : Int32)), .val (.ref rb), .val (.ref rw), .val (.long vn0), .second, .val (.long (1 : Int64)), .second, .unset, .unset, .unset, .unset, .unset, .unset] [(.int (2 : Int32)), (.int (xat + (3 : Int32))), (.int (xat + (2 : Int32))), (.ref rb), (.int (2 : Int32)), (.long p2)]))
          refine own_Go.st (fun _ kt => XS.iadd X88.here hx rfl (hb hby at_248) rfl kt) ?_
          show own_Go p e below _ (T88.setTop (mkF m 249 #[.val (.long p0), .second, .val (.long p1), .second, .val (.long p2), .second, .val (.int p3), .val (.int (3 : Int32)), .val (.int xat), .val (.int (1 : Int32)), .val (.int (0 : Int32)), .val (.ref rb), .val (.ref rw), .val (.long vn0), .second, .val (.long (1 : Int64)), .second, .unset, .unset, .unset, .unset, .unset, .unset] [(.int ((xat + (3 : Int32)) + (2 : Int32))), (.int (xat + (2 : Int32))), (.ref rb), (.int (2 : Int32)), (.long p2)]))
          refine own_Go.st (fun _ kt => XS.aload X88.here hx rfl (hb hby at_249) rfl rfl kt) ?_
          show own_Go p e below _ (T88.setTop (mkF m 251 #[.val (.long p0), .second, .val (.long p1), .second, .val (.long p2), .second, .val (.int p3), .val (.int (3 : Int32)), .val (.int xat), .val (.int (1 : Int32)), .val (.int (0 : Int32)), .val (.ref rb), .val (.ref rw), .val (.long vn0), .second, .val (.long (1 : Int64)), .second, .unset, .unset, .unset, .unset, .unset, .unset] [(.ref rw), (.int ((xat + (3 : Int32)) + (2 : Int32))), (.int (xat + (2 : Int32))), (.ref rb), (.int (2 : Int32)), (.long p2)]))
          refine own_Go.st (fun _ kt => XS.iconst X88.here hx rfl (hb hby at_251) kt) ?_
          show own_Go p e below _ (T88.setTop (mkF m 252 #[.val (.long p0), .second, .val (.long p1), .second, .val (.long p2), .second, .val (.int p3), .val (.int (3 : Int32)), .val (.int xat), .val (.int (1 : Int32)), .val (.int (0 : Int32)), .val (.ref rb), .val (.ref rw), .val (.long vn0), .second, .val (.long (1 : Int64)), .second, .unset, .unset, .unset, .unset, .unset, .unset] [(.int (2 : Int32)), (.ref rw), (.int ((xat + (3 : Int32)) + (2 : Int32))), (.int (xat + (2 : Int32))), (.ref rb), (.int (2 : Int32)), (.long p2)]))
          obtain ⟨_, _, ⟨T89, L89, k89, n89⟩, -, X89, ⟨Lc89, hQ89, l89, y89, z89⟩, st89⟩ := Jvm.LawKit.callS X88 hx (y := (⟨"com/example/thicket/thicket/PackedLevelGrownVolumePinLaw", "fill", "(JI[DII[DI)J"⟩ : MethodName)) hown (mvT hZ (hw _ (List.mem_of_getElem? (i := 15) rfl))) (mvT hZ (hw _ (List.mem_of_getElem? (i := 16) rfl))) (mvT hZ (hw _ (List.mem_of_getElem? (i := 13) rfl))) (mvT hZ (hw _ (List.mem_of_getElem? (i := 17) rfl))) (by decide) (backOf (W := 0) (own_fill l Z a0 hw [] p2 (2 : Int32) rb (xat + (2 : Int32)) ((xat + (3 : Int32)) + (2 : Int32)) rw (2 : Int32) (ia + 2) (ia + 3 + 2) 2 3 fb2 fw2 T86.heap n0 zz87 ab86 aw86 ne_rb_rw n0_rb n0_rw (own_addn hat (e := 2) (by decide) (by omega) (by decide)) (own_addn (own_addn hat (e := 3) (by decide) (by omega) (by decide)) (e := 2) (by decide) (by omega) (by decide)) (by decide) (by omega) (by omega) (by decide) (by decide)) hZ (hw _ (List.mem_of_getElem? (i := 17) rfl)) (hw _ (List.mem_of_getElem? (i := 13) rfl)) (by decide) (by decide)) (g := (mkF m 252 #[.val (.long p0), .second, .val (.long p1), .second, .val (.long p2), .second, .val (.int p3), .val (.int (3 : Int32)), .val (.int xat), .val (.int (1 : Int32)), .val (.int (0 : Int32)), .val (.ref rb), .val (.ref rw), .val (.long vn0), .second, .val (.long (1 : Int64)), .second, .unset, .unset, .unset, .unset, .unset, .unset] [(.int (2 : Int32)), (.ref rw), (.int ((xat + (3 : Int32)) + (2 : Int32))), (.int (xat + (2 : Int32))), (.ref rb), (.int (2 : Int32)), (.long p2)])) rfl (by rw [hml]; rfl) (argsL := [(.long p2), (.int (2 : Int32)), (.ref rb), (.int (xat + (2 : Int32))), (.int ((xat + (3 : Int32)) + (2 : Int32))), (.ref rw), (.int (2 : Int32))]) (rest := []) (lenOf own_pd2 rfl) rfl (by show 2 * 0 + _ ≤ _; exact Nat.le_of_eq rfl) (hb hby at_252) (fun _ _ => ⟨rfl, hh88, (by decide : 2 + 0 ≤ _), (by decide : 13 + 0 ≤ _)⟩)
          dsimp only [Pt.U, Pt.locs, Pt.cells, Pt.slots] at X89 l89 y89 z89 st89 hQ89
          subst l89 y89 z89
          obtain ⟨vn2, x2, y2, z2, G2, rfl, N89q, ex89, e289, e389, ab89, aw89, KF89⟩ := hQ89
          have N89 := Fr.app N88 N89q
          refine own_Go.st (fun _ kt => st89 _ kt) ?_
          have zz90 : n0 ≤ Array.size T89.heap := Nat.le_trans zz87 KF89.1
          show own_Go p e below _ (T89.setTop (mkF m 255 #[.val (.long p0), .second, .val (.long p1), .second, .val (.long p2), .second, .val (.int p3), .val (.int (3 : Int32)), .val (.int xat), .val (.int (1 : Int32)), .val (.int (0 : Int32)), .val (.ref rb), .val (.ref rw), .val (.long vn0), .second, .val (.long (1 : Int64)), .second, .unset, .unset, .unset, .unset, .unset, .unset] [(.long vn2)]))
          generalize hfb3 : (fun j => if j = (ia + 3 + 2) then Value.double y2 else if j = (ia + 2) then Value.double x2 else fb2 j) = fb3 at ab89
          generalize hfw3 : (fun j => if j = 2 then Value.double z2 else fw2 j) = fw3 at aw89
          obtain ⟨rfl, rfl⟩ := e289 rfl
          show own_Go p e below _ (T89.setTop (mkF m 255 #[.val (.long p0), .second, .val (.long p1), .second, .val (.long p2), .second, .val (.int p3), .val (.int (3 : Int32)), .val (.int xat), .val (.int (1 : Int32)), .val (.int (0 : Int32)), .val (.ref rb), .val (.ref rw), .val (.long vn0), .second, .val (.long (1 : Int64)), .second, .unset, .unset, .unset, .unset, .unset, .unset] [(.long (1 : Int64))]))
          refine own_Go.st (fun _ kt => XS.goto X89.here hx rfl (pc0 := 255) (pc' := 259) rfl (hb hby at_255) (by decide) (by decide) kt) ?_
          show own_Go p e below _ (T89.setTop (mkF m 259 #[.val (.long p0), .second, .val (.long p1), .second, .val (.long p2), .second, .val (.int p3), .val (.int (3 : Int32)), .val (.int xat), .val (.int (1 : Int32)), .val (.int (0 : Int32)), .val (.ref rb), .val (.ref rw), .val (.long vn0), .second, .val (.long (1 : Int64)), .second, .unset, .unset, .unset, .unset, .unset, .unset] [(.long (1 : Int64))]))
          refine own_Go.st (fun _ kt => XS.lstore X89.here hx rfl (hb hby at_259) rfl (l' := #[.val (.long p0), .second, .val (.long p1), .second, .val (.long p2), .second, .val (.int p3), .val (.int (3 : Int32)), .val (.int xat), .val (.int (1 : Int32)), .val (.int (0 : Int32)), .val (.ref rb), .val (.ref rw), .val (.long vn0), .second, .val (.long (1 : Int64)), .second, .val (.long (1 : Int64)), .second, .unset, .unset, .unset, .unset]) rfl kt) ?_
          show own_Go p e below _ (T89.setTop (mkF m 261 #[.val (.long p0), .second, .val (.long p1), .second, .val (.long p2), .second, .val (.int p3), .val (.int (3 : Int32)), .val (.int xat), .val (.int (1 : Int32)), .val (.int (0 : Int32)), .val (.ref rb), .val (.ref rw), .val (.long vn0), .second, .val (.long (1 : Int64)), .second, .val (.long (1 : Int64)), .second, .unset, .unset, .unset, .unset] []))
          refine own_Go.st (fun _ kt => XS.aload X89.here hx rfl (hb hby at_261) rfl rfl kt) ?_
          show own_Go p e below _ (T89.setTop (mkF m 263 #[.val (.long p0), .second, .val (.long p1), .second, .val (.long p2), .second, .val (.int p3), .val (.int (3 : Int32)), .val (.int xat), .val (.int (1 : Int32)), .val (.int (0 : Int32)), .val (.ref rb), .val (.ref rw), .val (.long vn0), .second, .val (.long (1 : Int64)), .second, .val (.long (1 : Int64)), .second, .unset, .unset, .unset, .unset] [(.ref rb)]))
          refine own_Go.st (fun _ kt => XS.iload X89.here hx rfl (hb hby at_263) rfl kt) ?_
          show own_Go p e below _ (T89.setTop (mkF m 265 #[.val (.long p0), .second, .val (.long p1), .second, .val (.long p2), .second, .val (.int p3), .val (.int (3 : Int32)), .val (.int xat), .val (.int (1 : Int32)), .val (.int (0 : Int32)), .val (.ref rb), .val (.ref rw), .val (.long vn0), .second, .val (.long (1 : Int64)), .second, .val (.long (1 : Int64)), .second, .unset, .unset, .unset, .unset] [(.int xat), (.ref rb)]))
          refine own_Go.st (fun _ kt => XS.aload X89.here hx rfl (hb hby at_265) rfl rfl kt) ?_
          show own_Go p e below _ (T89.setTop (mkF m 267 #[.val (.long p0), .second, .val (.long p1), .second, .val (.long p2), .second, .val (.int p3), .val (.int (3 : Int32)), .val (.int xat), .val (.int (1 : Int32)), .val (.int (0 : Int32)), .val (.ref rb), .val (.ref rw), .val (.long vn0), .second, .val (.long (1 : Int64)), .second, .val (.long (1 : Int64)), .second, .unset, .unset, .unset, .unset] [(.ref rw), (.int xat), (.ref rb)]))
          have fx0 : fb3 (ia + 0) = .double x0 := by
            subst hfb3 hfb2 hfb1
            dsimp only
            repeat (first | rw [if_pos (by omega)] | rw [if_neg (by omega)])
          have fy0 : fb3 (ia + 3 + 0) = .double y0 := by
            subst hfb3 hfb2 hfb1
            dsimp only
            repeat (first | rw [if_pos (by omega)] | rw [if_neg (by omega)])
          have fz0 : fw3 0 = .double z0 := by
            subst hfw3 hfw2 hfw1
            rfl
          have fx1 : fb3 (ia + 1) = .double x1 := by
            subst hfb3 hfb2 hfb1
            dsimp only
            repeat (first | rw [if_pos (by omega)] | rw [if_neg (by omega)])
          have fy1 : fb3 (ia + 3 + 1) = .double y1 := by
            subst hfb3 hfb2 hfb1
            dsimp only
            repeat (first | rw [if_pos (by omega)] | rw [if_neg (by omega)])
          have fz1 : fw3 1 = .double z1 := by
            subst hfw3 hfw2 hfw1
            rfl
          have fx2 : fb3 (ia + 2) = .double x2 := by
            subst hfb3 hfb2 hfb1
            dsimp only
            repeat (first | rw [if_pos (by omega)] | rw [if_neg (by omega)])
          have fy2 : fb3 (ia + 3 + 2) = .double y2 := by
            subst hfb3 hfb2 hfb1
            dsimp only
            repeat (first | rw [if_pos (by omega)] | rw [if_neg (by omega)])
          have fz2 : fw3 2 = .double z2 := by
            subst hfw3 hfw2 hfw1
            rfl
          have bN0 := own_nb ex83
          have bN1 := own_nb ex86
          have bN2 := own_nb ex89
          have r1 : own_Rep (G0 * 4 * ((2 ^ 2079 : Nat) : Int)) := own_rep2 _ _ 34 (by decide) (by omega)
          have r2 : own_Rep (G0 * 4 * 4 * ((2 ^ 2077 : Nat) : Int)) := own_rep2 _ _ 32 (by decide) (by omega)
          obtain ⟨_, _, ⟨T91, L91, k91, n91⟩, -, X91, ⟨Lc91, hQ91, l91, y91, z91⟩, st91⟩ := Jvm.LawKit.callS X89 hx (y := (⟨"com/example/thicket/thicket/PackedLevel", "grownVolume", "([DI[D)D"⟩ : MethodName)) hown (mvT hZ (hw _ (List.mem_of_getElem? (i := 28) rfl))) (mvT hZ (hw _ (List.mem_of_getElem? (i := 29) rfl))) (mvT hZ (hw _ (List.mem_of_getElem? (i := 30) rfl))) (mvT hZ (hw _ (List.mem_of_getElem? (i := 31) rfl))) (by decide) (backOf (W := 0) (own_gv3 l Z a0 hw [] rb xat rw ia fb3 fw3 x0 y0 z0 G0 2081 x1 y1 z1 4 1072 x2 y2 z2 4 1072 2079 2077 T89.heap n0 zz90 ab89 aw89 hat la ex83 (by decide) fx0 fy0 fz0 ex86 (by decide) fx1 fy1 fz1 ex89 (by decide) fx2 fy2 fz2 (by decide) (by decide) r1 r2) hZ (hw _ (List.mem_of_getElem? (i := 31) rfl)) (hw _ (List.mem_of_getElem? (i := 30) rfl)) (by decide) (by decide)) (g := (mkF m 267 #[.val (.long p0), .second, .val (.long p1), .second, .val (.long p2), .second, .val (.int p3), .val (.int (3 : Int32)), .val (.int xat), .val (.int (1 : Int32)), .val (.int (0 : Int32)), .val (.ref rb), .val (.ref rw), .val (.long vn0), .second, .val (.long (1 : Int64)), .second, .val (.long (1 : Int64)), .second, .unset, .unset, .unset, .unset] [(.ref rw), (.int xat), (.ref rb)])) rfl (by rw [hml]; rfl) (argsL := [(.ref rb), (.int xat), (.ref rw)]) (rest := []) (lenOf own_pd3 rfl) rfl (by show 2 * 0 + _ ≤ _; exact Nat.le_of_eq rfl) (hb hby at_267) (fun _ _ => ⟨rfl, rfl, (by decide : 2 + 0 ≤ _), (by decide : 13 + 0 ≤ _)⟩)
          dsimp only [Pt.U, Pt.locs, Pt.cells, Pt.slots] at X91 l91 y91 z91 st91 hQ91
          subst l91 y91 z91
          obtain ⟨d, rfl, N91q, hv91, hh91⟩ := hQ91
          have N91 := Fr.app N89 N91q
          refine own_Go.st (fun _ kt => st91 _ kt) ?_
          show own_Go p e below _ (T91.setTop (mkF m 270 #[.val (.long p0), .second, .val (.long p1), .second, .val (.long p2), .second, .val (.int p3), .val (.int (3 : Int32)), .val (.int xat), .val (.int (1 : Int32)), .val (.int (0 : Int32)), .val (.ref rb), .val (.ref rw), .val (.long vn0), .second, .val (.long (1 : Int64)), .second, .val (.long (1 : Int64)), .second, .unset, .unset, .unset, .unset] [(.double d)]))
          refine own_Go.st (fun _ kt => XS.dstore X91.here hx rfl (hb hby at_270) rfl (l' := #[.val (.long p0), .second, .val (.long p1), .second, .val (.long p2), .second, .val (.int p3), .val (.int (3 : Int32)), .val (.int xat), .val (.int (1 : Int32)), .val (.int (0 : Int32)), .val (.ref rb), .val (.ref rw), .val (.long vn0), .second, .val (.long (1 : Int64)), .second, .val (.long (1 : Int64)), .second, .val (.double d), .second, .unset, .unset]) rfl kt) ?_
          show own_Go p e below _ (T91.setTop (mkF m 272 #[.val (.long p0), .second, .val (.long p1), .second, .val (.long p2), .second, .val (.int p3), .val (.int (3 : Int32)), .val (.int xat), .val (.int (1 : Int32)), .val (.int (0 : Int32)), .val (.ref rb), .val (.ref rw), .val (.long vn0), .second, .val (.long (1 : Int64)), .second, .val (.long (1 : Int64)), .second, .val (.double d), .second, .unset, .unset] []))
          refine own_Go.st (fun _ kt => XS.iload X91.here hx rfl (hb hby at_272) rfl kt) ?_
          show own_Go p e below _ (T91.setTop (mkF m 274 #[.val (.long p0), .second, .val (.long p1), .second, .val (.long p2), .second, .val (.int p3), .val (.int (3 : Int32)), .val (.int xat), .val (.int (1 : Int32)), .val (.int (0 : Int32)), .val (.ref rb), .val (.ref rw), .val (.long vn0), .second, .val (.long (1 : Int64)), .second, .val (.long (1 : Int64)), .second, .val (.double d), .second, .unset, .unset] [(.int (1 : Int32))]))
          refine own_Go.st (fun _ kt => XS.ifNo X91.here hx rfl (hb hby at_274) rfl ((if0 _ _).trans (feq (by decide)).1) kt) ?_
          show own_Go p e below _ (T91.setTop (mkF m 277 #[.val (.long p0), .second, .val (.long p1), .second, .val (.long p2), .second, .val (.int p3), .val (.int (3 : Int32)), .val (.int xat), .val (.int (1 : Int32)), .val (.int (0 : Int32)), .val (.ref rb), .val (.ref rw), .val (.long vn0), .second, .val (.long (1 : Int64)), .second, .val (.long (1 : Int64)), .second, .val (.double d), .second, .unset, .unset] []))
          refine own_Go.st (fun _ kt => XS.iload X91.here hx rfl (hb hby at_277) rfl kt) ?_
          show own_Go p e below _ (T91.setTop (mkF m 279 #[.val (.long p0), .second, .val (.long p1), .second, .val (.long p2), .second, .val (.int p3), .val (.int (3 : Int32)), .val (.int xat), .val (.int (1 : Int32)), .val (.int (0 : Int32)), .val (.ref rb), .val (.ref rw), .val (.long vn0), .second, .val (.long (1 : Int64)), .second, .val (.long (1 : Int64)), .second, .val (.double d), .second, .unset, .unset] [(.int (0 : Int32))]))
          refine own_Go.st (fun _ kt => XS.ifNo X91.here hx rfl (hb hby at_279) rfl ((if0 _ _).trans (teq rfl).2) kt) ?_
          show own_Go p e below _ (T91.setTop (mkF m 282 #[.val (.long p0), .second, .val (.long p1), .second, .val (.long p2), .second, .val (.int p3), .val (.int (3 : Int32)), .val (.int xat), .val (.int (1 : Int32)), .val (.int (0 : Int32)), .val (.ref rb), .val (.ref rw), .val (.long vn0), .second, .val (.long (1 : Int64)), .second, .val (.long (1 : Int64)), .second, .val (.double d), .second, .unset, .unset] []))
          refine own_Go.st (fun _ kt => XS.lload X91.here hx rfl (hb hby at_282) rfl kt) ?_
          show own_Go p e below _ (T91.setTop (mkF m 284 #[.val (.long p0), .second, .val (.long p1), .second, .val (.long p2), .second, .val (.int p3), .val (.int (3 : Int32)), .val (.int xat), .val (.int (1 : Int32)), .val (.int (0 : Int32)), .val (.ref rb), .val (.ref rw), .val (.long vn0), .second, .val (.long (1 : Int64)), .second, .val (.long (1 : Int64)), .second, .val (.double d), .second, .unset, .unset] [(.long vn0)]))
          refine own_Go.st (fun _ kt => XS.goto X91.here hx rfl (pc0 := 284) (pc' := 300) rfl (hb hby at_284) (by decide) (by decide) kt) ?_
          show own_Go p e below _ (T91.setTop (mkF m 300 #[.val (.long p0), .second, .val (.long p1), .second, .val (.long p2), .second, .val (.int p3), .val (.int (3 : Int32)), .val (.int xat), .val (.int (1 : Int32)), .val (.int (0 : Int32)), .val (.ref rb), .val (.ref rw), .val (.long vn0), .second, .val (.long (1 : Int64)), .second, .val (.long (1 : Int64)), .second, .val (.double d), .second, .unset, .unset] [(.long vn0)]))
          refine own_Go.st (fun _ kt => XS.lstore X91.here hx rfl (hb hby at_300) rfl (l' := #[.val (.long p0), .second, .val (.long p1), .second, .val (.long p2), .second, .val (.int p3), .val (.int (3 : Int32)), .val (.int xat), .val (.int (1 : Int32)), .val (.int (0 : Int32)), .val (.ref rb), .val (.ref rw), .val (.long vn0), .second, .val (.long (1 : Int64)), .second, .val (.long (1 : Int64)), .second, .val (.double d), .second, .val (.long vn0), .second]) rfl kt) ?_
          show own_Go p e below _ (T91.setTop (mkF m 302 #[.val (.long p0), .second, .val (.long p1), .second, .val (.long p2), .second, .val (.int p3), .val (.int (3 : Int32)), .val (.int xat), .val (.int (1 : Int32)), .val (.int (0 : Int32)), .val (.ref rb), .val (.ref rw), .val (.long vn0), .second, .val (.long (1 : Int64)), .second, .val (.long (1 : Int64)), .second, .val (.double d), .second, .val (.long vn0), .second] []))
          refine own_Go.st (fun _ kt => XS.dload X91.here hx rfl (hb hby at_302) rfl kt) ?_
          show own_Go p e below _ (T91.setTop (mkF m 304 #[.val (.long p0), .second, .val (.long p1), .second, .val (.long p2), .second, .val (.int p3), .val (.int (3 : Int32)), .val (.int xat), .val (.int (1 : Int32)), .val (.int (0 : Int32)), .val (.ref rb), .val (.ref rw), .val (.long vn0), .second, .val (.long (1 : Int64)), .second, .val (.long (1 : Int64)), .second, .val (.double d), .second, .val (.long vn0), .second] [(.double d)]))
          refine own_Go.st (fun _ kt => XS.lload X91.here hx rfl (hb hby at_304) rfl kt) ?_
          show own_Go p e below _ (T91.setTop (mkF m 306 #[.val (.long p0), .second, .val (.long p1), .second, .val (.long p2), .second, .val (.int p3), .val (.int (3 : Int32)), .val (.int xat), .val (.int (1 : Int32)), .val (.int (0 : Int32)), .val (.ref rb), .val (.ref rw), .val (.long vn0), .second, .val (.long (1 : Int64)), .second, .val (.long (1 : Int64)), .second, .val (.double d), .second, .val (.long vn0), .second] [(.long vn0), (.double d)]))
          refine own_Go.st (fun _ kt => XS.l2dS X91.here hx rfl (hb hby at_306) rfl rfl kt) ?_
          show own_Go p e below _ (T91.setTop (mkF m 307 #[.val (.long p0), .second, .val (.long p1), .second, .val (.long p2), .second, .val (.int p3), .val (.int (3 : Int32)), .val (.int xat), .val (.int (1 : Int32)), .val (.int (0 : Int32)), .val (.ref rb), .val (.ref rw), .val (.long vn0), .second, .val (.long (1 : Int64)), .second, .val (.long (1 : Int64)), .second, .val (.double d), .second, .val (.long vn0), .second] [(.double (FP.l2d vn0)), (.double d)]))
          refine own_Go.st (fun _ kt => X91.ldc2DoubleC hx hown (mvT hZ (hw _ (List.mem_of_getElem? (i := 35) rfl))) (g := (mkF m 307 #[.val (.long p0), .second, .val (.long p1), .second, .val (.long p2), .second, .val (.int p3), .val (.int (3 : Int32)), .val (.int xat), .val (.int (1 : Int32)), .val (.int (0 : Int32)), .val (.ref rb), .val (.ref rw), .val (.long vn0), .second, .val (.long (1 : Int64)), .second, .val (.long (1 : Int64)), .second, .val (.double d), .second, .val (.long vn0), .second] [(.double (FP.l2d vn0)), (.double d)])) rfl (hb hby at_307) _ kt) ?_
          show own_Go p e below _ (T91.setTop (mkF m 310 #[.val (.long p0), .second, .val (.long p1), .second, .val (.long p2), .second, .val (.int p3), .val (.int (3 : Int32)), .val (.int xat), .val (.int (1 : Int32)), .val (.int (0 : Int32)), .val (.ref rb), .val (.ref rw), .val (.long vn0), .second, .val (.long (1 : Int64)), .second, .val (.long (1 : Int64)), .second, .val (.double d), .second, .val (.long vn0), .second] [(.double (9142307243562106880 : UInt64)), (.double (FP.l2d vn0)), (.double d)]))
          have hl := own_l2d (a := vn0) (by omega)
          rw [hN0] at hl
          have hm := own_mulP (D := 2081) hl own_D1007 (by decide) (by rw [Int.mul_one]; exact own_rep2 _ _ 36 (by decide) (by omega))
          rw [Int.mul_one] at hm
          refine own_Go.st (fun _ kt => XS.dmulS X91.here hx rfl (hb hby at_310) rfl (hm.n64) rfl kt) ?_
          show own_Go p e below _ (T91.setTop (mkF m 311 #[.val (.long p0), .second, .val (.long p1), .second, .val (.long p2), .second, .val (.int p3), .val (.int (3 : Int32)), .val (.int xat), .val (.int (1 : Int32)), .val (.int (0 : Int32)), .val (.ref rb), .val (.ref rw), .val (.long vn0), .second, .val (.long (1 : Int64)), .second, .val (.long (1 : Int64)), .second, .val (.double d), .second, .val (.long vn0), .second] [(.double (FP.dmul (FP.l2d vn0) (9142307243562106880 : UInt64))), (.double d)]))
          have heq : G0 * 4 * 4 * ((2 ^ 2077 : Nat) : Int) = G0 * ((2 ^ 2081 : Nat) : Int) := own_four3a G0
          rw [heq] at hv91
          refine own_Go.st (fun _ kt => XS.dcmpS X91.here hx rfl (hb hby at_311) rfl (own_deq hv91 hm _) kt) ?_
          show own_Go p e below _ (T91.setTop (mkF m 312 #[.val (.long p0), .second, .val (.long p1), .second, .val (.long p2), .second, .val (.int p3), .val (.int (3 : Int32)), .val (.int xat), .val (.int (1 : Int32)), .val (.int (0 : Int32)), .val (.ref rb), .val (.ref rw), .val (.long vn0), .second, .val (.long (1 : Int64)), .second, .val (.long (1 : Int64)), .second, .val (.double d), .second, .val (.long vn0), .second] [(.int (0 : Int32))]))
          refine own_Go.st (fun _ kt => XS.ifNo X91.here hx rfl (hb hby at_312) rfl ((if0 _ _).trans (teq rfl).2) kt) ?_
          show own_Go p e below _ (T91.setTop (mkF m 315 #[.val (.long p0), .second, .val (.long p1), .second, .val (.long p2), .second, .val (.int p3), .val (.int (3 : Int32)), .val (.int xat), .val (.int (1 : Int32)), .val (.int (0 : Int32)), .val (.ref rb), .val (.ref rw), .val (.long vn0), .second, .val (.long (1 : Int64)), .second, .val (.long (1 : Int64)), .second, .val (.double d), .second, .val (.long vn0), .second] []))
          refine own_Go.st (fun _ kt => XS.iconst X91.here hx rfl (hb hby at_315) kt) ?_
          show own_Go p e below _ (T91.setTop (mkF m 316 #[.val (.long p0), .second, .val (.long p1), .second, .val (.long p2), .second, .val (.int p3), .val (.int (3 : Int32)), .val (.int xat), .val (.int (1 : Int32)), .val (.int (0 : Int32)), .val (.ref rb), .val (.ref rw), .val (.long vn0), .second, .val (.long (1 : Int64)), .second, .val (.long (1 : Int64)), .second, .val (.double d), .second, .val (.long vn0), .second] [(.int (1 : Int32))]))
          refine own_Go.st (fun _ kt => XS.goto X91.here hx rfl (pc0 := 316) (pc' := 320) rfl (hb hby at_316) (by decide) (by decide) kt) ?_
          show own_Go p e below _ (T91.setTop (mkF m 320 #[.val (.long p0), .second, .val (.long p1), .second, .val (.long p2), .second, .val (.int p3), .val (.int (3 : Int32)), .val (.int xat), .val (.int (1 : Int32)), .val (.int (0 : Int32)), .val (.ref rb), .val (.ref rw), .val (.long vn0), .second, .val (.long (1 : Int64)), .second, .val (.long (1 : Int64)), .second, .val (.double d), .second, .val (.long vn0), .second] [(.int (1 : Int32))]))
          exact own_retZ X91 hx Bd.notSynchronized Bd.returns (Or.inr rfl) (hb hby at_320) (by decide) (by decide) ⟨rfl, N91⟩
        · show own_Go p e below _ (T79.setTop (mkF m 160 #[.val (.long p0), .second, .val (.long p1), .second, .val (.long p2), .second, .val (.int p3), .val (.int (3 : Int32)), .val (.int xat), .val (.int (1 : Int32)), .val (.int (1 : Int32)), .val (.ref rb), .val (.ref rw), .unset, .unset, .unset, .unset, .unset, .unset, .unset, .unset, .unset, .unset] [(.int (0 : Int32)), (.int (1 : Int32)), (.int (1 : Int32)), (.long p0)]))
          obtain ⟨_, _, ⟨T92, L92, k92, n92⟩, -, X92, ⟨Lc92, hQ92, l92, y92, z92⟩, st92⟩ := Jvm.LawKit.callS X79 hx (y := (⟨"com/example/thicket/thicket/PackedLevelGrownVolumePinLaw", "mode", "(ZII)I"⟩ : MethodName)) hown (mvT hZ (hw _ (List.mem_of_getElem? (i := 11) rfl))) (mvT hZ (hw _ (List.mem_of_getElem? (i := 12) rfl))) (mvT hZ (hw _ (List.mem_of_getElem? (i := 13) rfl))) (mvT hZ (hw _ (List.mem_of_getElem? (i := 14) rfl))) (by decide) (backOf (W := 2) (own_mode l Z a0 hw [] (1 : Int32) (1 : Int32) (0 : Int32) h79 n0 zz80 ) hZ (hw _ (List.mem_of_getElem? (i := 14) rfl)) (hw _ (List.mem_of_getElem? (i := 13) rfl)) (by decide) (by decide)) (g := (mkF m 160 #[.val (.long p0), .second, .val (.long p1), .second, .val (.long p2), .second, .val (.int p3), .val (.int (3 : Int32)), .val (.int xat), .val (.int (1 : Int32)), .val (.int (1 : Int32)), .val (.ref rb), .val (.ref rw), .unset, .unset, .unset, .unset, .unset, .unset, .unset, .unset, .unset, .unset] [(.int (0 : Int32)), (.int (1 : Int32)), (.int (1 : Int32)), (.long p0)])) rfl (by rw [hml]; rfl) (argsL := [(.int (1 : Int32)), (.int (1 : Int32)), (.int (0 : Int32))]) (rest := [(.long p0)]) (lenOf own_pd1 rfl) rfl (by show 2 * 0 + _ ≤ _; exact Nat.le_of_eq rfl) (hb hby at_160) (fun _ _ => ⟨rfl, e79, (by decide : 2 + 0 ≤ _), (by decide : 13 + 0 ≤ _)⟩)
          dsimp only [Pt.U, Pt.locs, Pt.cells, Pt.slots] at X92 l92 y92 z92 st92 hQ92
          subst l92 y92 z92
          obtain ⟨rfl, N92q, hh92⟩ := hQ92
          have N92 := Fr.app N22 N92q
          refine own_Go.st (fun _ kt => st92 _ kt) ?_
          show own_Go p e below _ (T92.setTop (mkF m 163 #[.val (.long p0), .second, .val (.long p1), .second, .val (.long p2), .second, .val (.int p3), .val (.int (3 : Int32)), .val (.int xat), .val (.int (1 : Int32)), .val (.int (1 : Int32)), .val (.ref rb), .val (.ref rw), .unset, .unset, .unset, .unset, .unset, .unset, .unset, .unset, .unset, .unset] [(.int (if (1 : Int32) = 0 then (0 : Int32) else if (0 : Int32) = (1 : Int32) then 1 else 2)), (.long p0)]))
          rw [show (if (1 : Int32) = 0 then (0 : Int32) else if (0 : Int32) = (1 : Int32) then 1 else 2) = (2 : Int32) from (by decide)]
          show own_Go p e below _ (T92.setTop (mkF m 163 #[.val (.long p0), .second, .val (.long p1), .second, .val (.long p2), .second, .val (.int p3), .val (.int (3 : Int32)), .val (.int xat), .val (.int (1 : Int32)), .val (.int (1 : Int32)), .val (.ref rb), .val (.ref rw), .unset, .unset, .unset, .unset, .unset, .unset, .unset, .unset, .unset, .unset] [(.int (2 : Int32)), (.long p0)]))
          refine own_Go.st (fun _ kt => XS.aload X92.here hx rfl (hb hby at_163) rfl rfl kt) ?_
          show own_Go p e below _ (T92.setTop (mkF m 165 #[.val (.long p0), .second, .val (.long p1), .second, .val (.long p2), .second, .val (.int p3), .val (.int (3 : Int32)), .val (.int xat), .val (.int (1 : Int32)), .val (.int (1 : Int32)), .val (.ref rb), .val (.ref rw), .unset, .unset, .unset, .unset, .unset, .unset, .unset, .unset, .unset, .unset] [(.ref rb), (.int (2 : Int32)), (.long p0)]))
          refine own_Go.st (fun _ kt => XS.iload X92.here hx rfl (hb hby at_165) rfl kt) ?_
          show own_Go p e below _ (T92.setTop (mkF m 167 #[.val (.long p0), .second, .val (.long p1), .second, .val (.long p2), .second, .val (.int p3), .val (.int (3 : Int32)), .val (.int xat), .val (.int (1 : Int32)), .val (.int (1 : Int32)), .val (.ref rb), .val (.ref rw), .unset, .unset, .unset, .unset, .unset, .unset, .unset, .unset, .unset, .unset] [(.int xat), (.ref rb), (.int (2 : Int32)), (.long p0)]))
          refine own_Go.st (fun _ kt => XS.iload X92.here hx rfl (hb hby at_167) rfl kt) ?_
          show own_Go p e below _ (T92.setTop (mkF m 169 #[.val (.long p0), .second, .val (.long p1), .second, .val (.long p2), .second, .val (.int p3), .val (.int (3 : Int32)), .val (.int xat), .val (.int (1 : Int32)), .val (.int (1 : Int32)), .val (.ref rb), .val (.ref rw), .unset, .unset, .unset, .unset, .unset, .unset, .unset, .unset, .unset, .unset] [(.int xat), (.int xat), (.ref rb), (.int (2 : Int32)), (.long p0)]))
          refine own_Go.st (fun _ kt => XS.iload X92.here hx rfl (hb hby at_169) rfl kt) ?_
          show own_Go p e below _ (T92.setTop (mkF m 171 #[.val (.long p0), .second, .val (.long p1), .second, .val (.long p2), .second, .val (.int p3), .val (.int (3 : Int32)), .val (.int xat), .val (.int (1 : Int32)), .val (.int (1 : Int32)), .val (.ref rb), .val (.ref rw), .unset, .unset, .unset, .unset, .unset, .unset, .unset, .unset, .unset, .unset] [(.int (3 : Int32)), (.int xat), (.int xat), (.ref rb), (.int (2 : Int32)), (.long p0)]))
          refine own_Go.st (fun _ kt => XS.iadd X92.here hx rfl (hb hby at_171) rfl kt) ?_
          show own_Go p e below _ (T92.setTop (mkF m 172 #[.val (.long p0), .second, .val (.long p1), .second, .val (.long p2), .second, .val (.int p3), .val (.int (3 : Int32)), .val (.int xat), .val (.int (1 : Int32)), .val (.int (1 : Int32)), .val (.ref rb), .val (.ref rw), .unset, .unset, .unset, .unset, .unset, .unset, .unset, .unset, .unset, .unset] [(.int (xat + (3 : Int32))), (.int xat), (.ref rb), (.int (2 : Int32)), (.long p0)]))
          refine own_Go.st (fun _ kt => XS.aload X92.here hx rfl (hb hby at_172) rfl rfl kt) ?_
          show own_Go p e below _ (T92.setTop (mkF m 174 #[.val (.long p0), .second, .val (.long p1), .second, .val (.long p2), .second, .val (.int p3), .val (.int (3 : Int32)), .val (.int xat), .val (.int (1 : Int32)), .val (.int (1 : Int32)), .val (.ref rb), .val (.ref rw), .unset, .unset, .unset, .unset, .unset, .unset, .unset, .unset, .unset, .unset] [(.ref rw), (.int (xat + (3 : Int32))), (.int xat), (.ref rb), (.int (2 : Int32)), (.long p0)]))
          refine own_Go.st (fun _ kt => XS.iconst X92.here hx rfl (hb hby at_174) kt) ?_
          show own_Go p e below _ (T92.setTop (mkF m 175 #[.val (.long p0), .second, .val (.long p1), .second, .val (.long p2), .second, .val (.int p3), .val (.int (3 : Int32)), .val (.int xat), .val (.int (1 : Int32)), .val (.int (1 : Int32)), .val (.ref rb), .val (.ref rw), .unset, .unset, .unset, .unset, .unset, .unset, .unset, .unset, .unset, .unset] [(.int (0 : Int32)), (.ref rw), (.int (xat + (3 : Int32))), (.int xat), (.ref rb), (.int (2 : Int32)), (.long p0)]))
          have f93 := (ab.ext E79)
          obtain ⟨_, _, ⟨T94, L94, k94, n94⟩, -, X94, ⟨Lc94, hQ94, l94, y94, z94⟩, st94⟩ := Jvm.LawKit.callS X92 hx (y := (⟨"com/example/thicket/thicket/PackedLevelGrownVolumePinLaw", "fill", "(JI[DII[DI)J"⟩ : MethodName)) hown (mvT hZ (hw _ (List.mem_of_getElem? (i := 15) rfl))) (mvT hZ (hw _ (List.mem_of_getElem? (i := 16) rfl))) (mvT hZ (hw _ (List.mem_of_getElem? (i := 13) rfl))) (mvT hZ (hw _ (List.mem_of_getElem? (i := 17) rfl))) (by decide) (backOf (W := 0) (own_fill l Z a0 hw [] p0 (2 : Int32) rb xat (xat + (3 : Int32)) rw (0 : Int32) ia (ia + 3) 0 3 fb fw h79 n0 zz80 f93 aw ne_rb_rw n0_rb n0_rw hat (own_addn hat (e := 3) (by decide) (by omega) (by decide)) (by decide) (by omega) (by omega) (by decide) (by decide)) hZ (hw _ (List.mem_of_getElem? (i := 17) rfl)) (hw _ (List.mem_of_getElem? (i := 13) rfl)) (by decide) (by decide)) (g := (mkF m 175 #[.val (.long p0), .second, .val (.long p1), .second, .val (.long p2), .second, .val (.int p3), .val (.int (3 : Int32)), .val (.int xat), .val (.int (1 : Int32)), .val (.int (1 : Int32)), .val (.ref rb), .val (.ref rw), .unset, .unset, .unset, .unset, .unset, .unset, .unset, .unset, .unset, .unset] [(.int (0 : Int32)), (.ref rw), (.int (xat + (3 : Int32))), (.int xat), (.ref rb), (.int (2 : Int32)), (.long p0)])) rfl (by rw [hml]; rfl) (argsL := [(.long p0), (.int (2 : Int32)), (.ref rb), (.int xat), (.int (xat + (3 : Int32))), (.ref rw), (.int (0 : Int32))]) (rest := []) (lenOf own_pd2 rfl) rfl (by show 2 * 0 + _ ≤ _; exact Nat.le_of_eq rfl) (hb hby at_175) (fun _ _ => ⟨rfl, hh92, (by decide : 2 + 0 ≤ _), (by decide : 13 + 0 ≤ _)⟩)
          dsimp only [Pt.U, Pt.locs, Pt.cells, Pt.slots] at X94 l94 y94 z94 st94 hQ94
          subst l94 y94 z94
          obtain ⟨vn0, x0, y0, z0, G0, rfl, N94q, ex94, e294, e394, ab94, aw94, KF94⟩ := hQ94
          have N94 := Fr.app N92 N94q
          refine own_Go.st (fun _ kt => st94 _ kt) ?_
          have zz95 : n0 ≤ Array.size T94.heap := Nat.le_trans zz80 KF94.1
          show own_Go p e below _ (T94.setTop (mkF m 178 #[.val (.long p0), .second, .val (.long p1), .second, .val (.long p2), .second, .val (.int p3), .val (.int (3 : Int32)), .val (.int xat), .val (.int (1 : Int32)), .val (.int (1 : Int32)), .val (.ref rb), .val (.ref rw), .unset, .unset, .unset, .unset, .unset, .unset, .unset, .unset, .unset, .unset] [(.long vn0)]))
          generalize hfb1 : (fun j => if j = (ia + 3) then Value.double y0 else if j = ia then Value.double x0 else fb j) = fb1 at ab94
          generalize hfw1 : (fun j => if j = 0 then Value.double z0 else fw j) = fw1 at aw94
          obtain ⟨rfl, rfl⟩ := e294 rfl
          show own_Go p e below _ (T94.setTop (mkF m 178 #[.val (.long p0), .second, .val (.long p1), .second, .val (.long p2), .second, .val (.int p3), .val (.int (3 : Int32)), .val (.int xat), .val (.int (1 : Int32)), .val (.int (1 : Int32)), .val (.ref rb), .val (.ref rw), .unset, .unset, .unset, .unset, .unset, .unset, .unset, .unset, .unset, .unset] [(.long (1 : Int64))]))
          refine own_Go.st (fun _ kt => XS.lstore X94.here hx rfl (hb hby at_178) rfl (l' := #[.val (.long p0), .second, .val (.long p1), .second, .val (.long p2), .second, .val (.int p3), .val (.int (3 : Int32)), .val (.int xat), .val (.int (1 : Int32)), .val (.int (1 : Int32)), .val (.ref rb), .val (.ref rw), .val (.long (1 : Int64)), .second, .unset, .unset, .unset, .unset, .unset, .unset, .unset, .unset]) rfl kt) ?_
          show own_Go p e below _ (T94.setTop (mkF m 180 #[.val (.long p0), .second, .val (.long p1), .second, .val (.long p2), .second, .val (.int p3), .val (.int (3 : Int32)), .val (.int xat), .val (.int (1 : Int32)), .val (.int (1 : Int32)), .val (.ref rb), .val (.ref rw), .val (.long (1 : Int64)), .second, .unset, .unset, .unset, .unset, .unset, .unset, .unset, .unset] []))
          refine own_Go.st (fun _ kt => XS.iload X94.here hx rfl (hb hby at_180) rfl kt) ?_
          show own_Go p e below _ (T94.setTop (mkF m 182 #[.val (.long p0), .second, .val (.long p1), .second, .val (.long p2), .second, .val (.int p3), .val (.int (3 : Int32)), .val (.int xat), .val (.int (1 : Int32)), .val (.int (1 : Int32)), .val (.ref rb), .val (.ref rw), .val (.long (1 : Int64)), .second, .unset, .unset, .unset, .unset, .unset, .unset, .unset, .unset] [(.int (3 : Int32))]))
          refine own_Go.st (fun _ kt => XS.iconst X94.here hx rfl (hb hby at_182) kt) ?_
          show own_Go p e below _ (T94.setTop (mkF m 183 #[.val (.long p0), .second, .val (.long p1), .second, .val (.long p2), .second, .val (.int p3), .val (.int (3 : Int32)), .val (.int xat), .val (.int (1 : Int32)), .val (.int (1 : Int32)), .val (.ref rb), .val (.ref rw), .val (.long (1 : Int64)), .second, .unset, .unset, .unset, .unset, .unset, .unset, .unset, .unset] [(.int (1 : Int32)), (.int (3 : Int32))]))
          refine own_Go.st (fun _ kt => XS.icmpNo X94.here hx rfl (hb hby at_183) rfl (tlt (by decide)).2.2.2 kt) ?_
          show own_Go p e below _ (T94.setTop (mkF m 186 #[.val (.long p0), .second, .val (.long p1), .second, .val (.long p2), .second, .val (.int p3), .val (.int (3 : Int32)), .val (.int xat), .val (.int (1 : Int32)), .val (.int (1 : Int32)), .val (.ref rb), .val (.ref rw), .val (.long (1 : Int64)), .second, .unset, .unset, .unset, .unset, .unset, .unset, .unset, .unset] []))
          refine own_Go.st (fun _ kt => XS.lloadN X94.here hx rfl (hb hby at_186) rfl kt) ?_
          show own_Go p e below _ (T94.setTop (mkF m 187 #[.val (.long p0), .second, .val (.long p1), .second, .val (.long p2), .second, .val (.int p3), .val (.int (3 : Int32)), .val (.int xat), .val (.int (1 : Int32)), .val (.int (1 : Int32)), .val (.ref rb), .val (.ref rw), .val (.long (1 : Int64)), .second, .unset, .unset, .unset, .unset, .unset, .unset, .unset, .unset] [(.long p1)]))
          refine own_Go.st (fun _ kt => XS.iload X94.here hx rfl (hb hby at_187) rfl kt) ?_
          show own_Go p e below _ (T94.setTop (mkF m 189 #[.val (.long p0), .second, .val (.long p1), .second, .val (.long p2), .second, .val (.int p3), .val (.int (3 : Int32)), .val (.int xat), .val (.int (1 : Int32)), .val (.int (1 : Int32)), .val (.ref rb), .val (.ref rw), .val (.long (1 : Int64)), .second, .unset, .unset, .unset, .unset, .unset, .unset, .unset, .unset] [(.int (1 : Int32)), (.long p1)]))
          refine own_Go.st (fun _ kt => XS.iload X94.here hx rfl (hb hby at_189) rfl kt) ?_
          show own_Go p e below _ (T94.setTop (mkF m 191 #[.val (.long p0), .second, .val (.long p1), .second, .val (.long p2), .second, .val (.int p3), .val (.int (3 : Int32)), .val (.int xat), .val (.int (1 : Int32)), .val (.int (1 : Int32)), .val (.ref rb), .val (.ref rw), .val (.long (1 : Int64)), .second, .unset, .unset, .unset, .unset, .unset, .unset, .unset, .unset] [(.int (1 : Int32)), (.int (1 : Int32)), (.long p1)]))
          refine own_Go.st (fun _ kt => XS.iconst X94.here hx rfl (hb hby at_191) kt) ?_
          show own_Go p e below _ (T94.setTop (mkF m 192 #[.val (.long p0), .second, .val (.long p1), .second, .val (.long p2), .second, .val (.int p3), .val (.int (3 : Int32)), .val (.int xat), .val (.int (1 : Int32)), .val (.int (1 : Int32)), .val (.ref rb), .val (.ref rw), .val (.long (1 : Int64)), .second, .unset, .unset, .unset, .unset, .unset, .unset, .unset, .unset] [(.int (1 : Int32)), (.int (1 : Int32)), (.int (1 : Int32)), (.long p1)]))
          obtain ⟨_, _, ⟨T96, L96, k96, n96⟩, -, X96, ⟨Lc96, hQ96, l96, y96, z96⟩, st96⟩ := Jvm.LawKit.callS X94 hx (y := (⟨"com/example/thicket/thicket/PackedLevelGrownVolumePinLaw", "mode", "(ZII)I"⟩ : MethodName)) hown (mvT hZ (hw _ (List.mem_of_getElem? (i := 11) rfl))) (mvT hZ (hw _ (List.mem_of_getElem? (i := 12) rfl))) (mvT hZ (hw _ (List.mem_of_getElem? (i := 13) rfl))) (mvT hZ (hw _ (List.mem_of_getElem? (i := 14) rfl))) (by decide) (backOf (W := 2) (own_mode l Z a0 hw [] (1 : Int32) (1 : Int32) (1 : Int32) T94.heap n0 zz95 ) hZ (hw _ (List.mem_of_getElem? (i := 14) rfl)) (hw _ (List.mem_of_getElem? (i := 13) rfl)) (by decide) (by decide)) (g := (mkF m 192 #[.val (.long p0), .second, .val (.long p1), .second, .val (.long p2), .second, .val (.int p3), .val (.int (3 : Int32)), .val (.int xat), .val (.int (1 : Int32)), .val (.int (1 : Int32)), .val (.ref rb), .val (.ref rw), .val (.long (1 : Int64)), .second, .unset, .unset, .unset, .unset, .unset, .unset, .unset, .unset] [(.int (1 : Int32)), (.int (1 : Int32)), (.int (1 : Int32)), (.long p1)])) rfl (by rw [hml]; rfl) (argsL := [(.int (1 : Int32)), (.int (1 : Int32)), (.int (1 : Int32))]) (rest := [(.long p1)]) (lenOf own_pd1 rfl) rfl (by show 2 * 0 + _ ≤ _; exact Nat.le_of_eq rfl) (hb hby at_192) (fun _ _ => ⟨rfl, rfl, (by decide : 2 + 0 ≤ _), (by decide : 13 + 0 ≤ _)⟩)
          dsimp only [Pt.U, Pt.locs, Pt.cells, Pt.slots] at X96 l96 y96 z96 st96 hQ96
          subst l96 y96 z96
          obtain ⟨rfl, N96q, hh96⟩ := hQ96
          have N96 := Fr.app N94 N96q
          refine own_Go.st (fun _ kt => st96 _ kt) ?_
          show own_Go p e below _ (T96.setTop (mkF m 195 #[.val (.long p0), .second, .val (.long p1), .second, .val (.long p2), .second, .val (.int p3), .val (.int (3 : Int32)), .val (.int xat), .val (.int (1 : Int32)), .val (.int (1 : Int32)), .val (.ref rb), .val (.ref rw), .val (.long (1 : Int64)), .second, .unset, .unset, .unset, .unset, .unset, .unset, .unset, .unset] [(.int (if (1 : Int32) = 0 then (0 : Int32) else if (1 : Int32) = (1 : Int32) then 1 else 2)), (.long p1)]))
          rw [show (if (1 : Int32) = 0 then (0 : Int32) else if (1 : Int32) = (1 : Int32) then 1 else 2) = (1 : Int32) from (by decide)]
          show own_Go p e below _ (T96.setTop (mkF m 195 #[.val (.long p0), .second, .val (.long p1), .second, .val (.long p2), .second, .val (.int p3), .val (.int (3 : Int32)), .val (.int xat), .val (.int (1 : Int32)), .val (.int (1 : Int32)), .val (.ref rb), .val (.ref rw), .val (.long (1 : Int64)), .second, .unset, .unset, .unset, .unset, .unset, .unset, .unset, .unset] [(.int (1 : Int32)), (.long p1)]))
          refine own_Go.st (fun _ kt => XS.aload X96.here hx rfl (hb hby at_195) rfl rfl kt) ?_
          show own_Go p e below _ (T96.setTop (mkF m 197 #[.val (.long p0), .second, .val (.long p1), .second, .val (.long p2), .second, .val (.int p3), .val (.int (3 : Int32)), .val (.int xat), .val (.int (1 : Int32)), .val (.int (1 : Int32)), .val (.ref rb), .val (.ref rw), .val (.long (1 : Int64)), .second, .unset, .unset, .unset, .unset, .unset, .unset, .unset, .unset] [(.ref rb), (.int (1 : Int32)), (.long p1)]))
          refine own_Go.st (fun _ kt => XS.iload X96.here hx rfl (hb hby at_197) rfl kt) ?_
          show own_Go p e below _ (T96.setTop (mkF m 199 #[.val (.long p0), .second, .val (.long p1), .second, .val (.long p2), .second, .val (.int p3), .val (.int (3 : Int32)), .val (.int xat), .val (.int (1 : Int32)), .val (.int (1 : Int32)), .val (.ref rb), .val (.ref rw), .val (.long (1 : Int64)), .second, .unset, .unset, .unset, .unset, .unset, .unset, .unset, .unset] [(.int xat), (.ref rb), (.int (1 : Int32)), (.long p1)]))
          refine own_Go.st (fun _ kt => XS.iconst X96.here hx rfl (hb hby at_199) kt) ?_
          show own_Go p e below _ (T96.setTop (mkF m 200 #[.val (.long p0), .second, .val (.long p1), .second, .val (.long p2), .second, .val (.int p3), .val (.int (3 : Int32)), .val (.int xat), .val (.int (1 : Int32)), .val (.int (1 : Int32)), .val (.ref rb), .val (.ref rw), .val (.long (1 : Int64)), .second, .unset, .unset, .unset, .unset, .unset, .unset, .unset, .unset] [(.int (1 : Int32)), (.int xat), (.ref rb), (.int (1 : Int32)), (.long p1)]))
          refine own_Go.st (fun _ kt => XS.iadd X96.here hx rfl (hb hby at_200) rfl kt) ?_
          show own_Go p e below _ (T96.setTop (mkF m 201 #[.val (.long p0), .second, .val (.long p1), .second, .val (.long p2), .second, .val (.int p3), .val (.int (3 : Int32)), .val (.int xat), .val (.int (1 : Int32)), .val (.int (1 : Int32)), .val (.ref rb), .val (.ref rw), .val (.long (1 : Int64)), .second, .unset, .unset, .unset, .unset, .unset, .unset, .unset, .unset] [(.int (xat + (1 : Int32))), (.ref rb), (.int (1 : Int32)), (.long p1)]))
          refine own_Go.st (fun _ kt => XS.iload X96.here hx rfl (hb hby at_201) rfl kt) ?_
          show own_Go p e below _ (T96.setTop (mkF m 203 #[.val (.long p0), .second, .val (.long p1), .second, .val (.long p2), .second, .val (.int p3), .val (.int (3 : Int32)), .val (.int xat), .val (.int (1 : Int32)), .val (.int (1 : Int32)), .val (.ref rb), .val (.ref rw), .val (.long (1 : Int64)), .second, .unset, .unset, .unset, .unset, .unset, .unset, .unset, .unset] [(.int xat), (.int (xat + (1 : Int32))), (.ref rb), (.int (1 : Int32)), (.long p1)]))
          refine own_Go.st (fun _ kt => XS.iload X96.here hx rfl (hb hby at_203) rfl kt) ?_
          show own_Go p e below _ (T96.setTop (mkF m 205 #[.val (.long p0), .second, .val (.long p1), .second, .val (.long p2), .second, .val (.int p3), .val (.int (3 : Int32)), .val (.int xat), .val (.int (1 : Int32)), .val (.int (1 : Int32)), .val (.ref rb), .val (.ref rw), .val (.long (1 : Int64)), .second, .unset, .unset, .unset, .unset, .unset, .unset, .unset, .unset] [(.int (3 : Int32)), (.int xat), (.int (xat + (1 : Int32))), (.ref rb), (.int (1 : Int32)), (.long p1)]))
          refine own_Go.st (fun _ kt => XS.iadd X96.here hx rfl (hb hby at_205) rfl kt) ?_
          show own_Go p e below _ (T96.setTop (mkF m 206 #[.val (.long p0), .second, .val (.long p1), .second, .val (.long p2), .second, .val (.int p3), .val (.int (3 : Int32)), .val (.int xat), .val (.int (1 : Int32)), .val (.int (1 : Int32)), .val (.ref rb), .val (.ref rw), .val (.long (1 : Int64)), .second, .unset, .unset, .unset, .unset, .unset, .unset, .unset, .unset] [(.int (xat + (3 : Int32))), (.int (xat + (1 : Int32))), (.ref rb), (.int (1 : Int32)), (.long p1)]))
          refine own_Go.st (fun _ kt => XS.iconst X96.here hx rfl (hb hby at_206) kt) ?_
          show own_Go p e below _ (T96.setTop (mkF m 207 #[.val (.long p0), .second, .val (.long p1), .second, .val (.long p2), .second, .val (.int p3), .val (.int (3 : Int32)), .val (.int xat), .val (.int (1 : Int32)), .val (.int (1 : Int32)), .val (.ref rb), .val (.ref rw), .val (.long (1 : Int64)), .second, .unset, .unset, .unset, .unset, .unset, .unset, .unset, .unset] [(.int (1 : Int32)), (.int (xat + (3 : Int32))), (.int (xat + (1 : Int32))), (.ref rb), (.int (1 : Int32)), (.long p1)]))
          refine own_Go.st (fun _ kt => XS.iadd X96.here hx rfl (hb hby at_207) rfl kt) ?_
          show own_Go p e below _ (T96.setTop (mkF m 208 #[.val (.long p0), .second, .val (.long p1), .second, .val (.long p2), .second, .val (.int p3), .val (.int (3 : Int32)), .val (.int xat), .val (.int (1 : Int32)), .val (.int (1 : Int32)), .val (.ref rb), .val (.ref rw), .val (.long (1 : Int64)), .second, .unset, .unset, .unset, .unset, .unset, .unset, .unset, .unset] [(.int ((xat + (3 : Int32)) + (1 : Int32))), (.int (xat + (1 : Int32))), (.ref rb), (.int (1 : Int32)), (.long p1)]))
          refine own_Go.st (fun _ kt => XS.aload X96.here hx rfl (hb hby at_208) rfl rfl kt) ?_
          show own_Go p e below _ (T96.setTop (mkF m 210 #[.val (.long p0), .second, .val (.long p1), .second, .val (.long p2), .second, .val (.int p3), .val (.int (3 : Int32)), .val (.int xat), .val (.int (1 : Int32)), .val (.int (1 : Int32)), .val (.ref rb), .val (.ref rw), .val (.long (1 : Int64)), .second, .unset, .unset, .unset, .unset, .unset, .unset, .unset, .unset] [(.ref rw), (.int ((xat + (3 : Int32)) + (1 : Int32))), (.int (xat + (1 : Int32))), (.ref rb), (.int (1 : Int32)), (.long p1)]))
          refine own_Go.st (fun _ kt => XS.iconst X96.here hx rfl (hb hby at_210) kt) ?_
          show own_Go p e below _ (T96.setTop (mkF m 211 #[.val (.long p0), .second, .val (.long p1), .second, .val (.long p2), .second, .val (.int p3), .val (.int (3 : Int32)), .val (.int xat), .val (.int (1 : Int32)), .val (.int (1 : Int32)), .val (.ref rb), .val (.ref rw), .val (.long (1 : Int64)), .second, .unset, .unset, .unset, .unset, .unset, .unset, .unset, .unset] [(.int (1 : Int32)), (.ref rw), (.int ((xat + (3 : Int32)) + (1 : Int32))), (.int (xat + (1 : Int32))), (.ref rb), (.int (1 : Int32)), (.long p1)]))
          obtain ⟨_, _, ⟨T97, L97, k97, n97⟩, -, X97, ⟨Lc97, hQ97, l97, y97, z97⟩, st97⟩ := Jvm.LawKit.callS X96 hx (y := (⟨"com/example/thicket/thicket/PackedLevelGrownVolumePinLaw", "fill", "(JI[DII[DI)J"⟩ : MethodName)) hown (mvT hZ (hw _ (List.mem_of_getElem? (i := 15) rfl))) (mvT hZ (hw _ (List.mem_of_getElem? (i := 16) rfl))) (mvT hZ (hw _ (List.mem_of_getElem? (i := 13) rfl))) (mvT hZ (hw _ (List.mem_of_getElem? (i := 17) rfl))) (by decide) (backOf (W := 0) (own_fill l Z a0 hw [] p1 (1 : Int32) rb (xat + (1 : Int32)) ((xat + (3 : Int32)) + (1 : Int32)) rw (1 : Int32) (ia + 1) (ia + 3 + 1) 1 3 fb1 fw1 T94.heap n0 zz95 ab94 aw94 ne_rb_rw n0_rb n0_rw (own_addn hat (e := 1) (by decide) (by omega) (by decide)) (own_addn (own_addn hat (e := 3) (by decide) (by omega) (by decide)) (e := 1) (by decide) (by omega) (by decide)) (by decide) (by omega) (by omega) (by decide) (by decide)) hZ (hw _ (List.mem_of_getElem? (i := 17) rfl)) (hw _ (List.mem_of_getElem? (i := 13) rfl)) (by decide) (by decide)) (g := (mkF m 211 #[.val (.long p0), .second, .val (.long p1), .second, .val (.long p2), .second, .val (.int p3), .val (.int (3 : Int32)), .val (.int xat), .val (.int (1 : Int32)), .val (.int (1 : Int32)), .val (.ref rb), .val (.ref rw), .val (.long (1 : Int64)), .second, .unset, .unset, .unset, .unset, .unset, .unset, .unset, .unset] [(.int (1 : Int32)), (.ref rw), (.int ((xat + (3 : Int32)) + (1 : Int32))), (.int (xat + (1 : Int32))), (.ref rb), (.int (1 : Int32)), (.long p1)])) rfl (by rw [hml]; rfl) (argsL := [(.long p1), (.int (1 : Int32)), (.ref rb), (.int (xat + (1 : Int32))), (.int ((xat + (3 : Int32)) + (1 : Int32))), (.ref rw), (.int (1 : Int32))]) (rest := []) (lenOf own_pd2 rfl) rfl (by show 2 * 0 + _ ≤ _; exact Nat.le_of_eq rfl) (hb hby at_211) (fun _ _ => ⟨rfl, hh96, (by decide : 2 + 0 ≤ _), (by decide : 13 + 0 ≤ _)⟩)
          dsimp only [Pt.U, Pt.locs, Pt.cells, Pt.slots] at X97 l97 y97 z97 st97 hQ97
          subst l97 y97 z97
          obtain ⟨vn1, x1, y1, z1, G1, rfl, N97q, ex97, e297, e397, ab97, aw97, KF97⟩ := hQ97
          have N97 := Fr.app N96 N97q
          refine own_Go.st (fun _ kt => st97 _ kt) ?_
          have zz98 : n0 ≤ Array.size T97.heap := Nat.le_trans zz95 KF97.1
          show own_Go p e below _ (T97.setTop (mkF m 214 #[.val (.long p0), .second, .val (.long p1), .second, .val (.long p2), .second, .val (.int p3), .val (.int (3 : Int32)), .val (.int xat), .val (.int (1 : Int32)), .val (.int (1 : Int32)), .val (.ref rb), .val (.ref rw), .val (.long (1 : Int64)), .second, .unset, .unset, .unset, .unset, .unset, .unset, .unset, .unset] [(.long vn1)]))
          generalize hfb2 : (fun j => if j = (ia + 3 + 1) then Value.double y1 else if j = (ia + 1) then Value.double x1 else fb1 j) = fb2 at ab97
          generalize hfw2 : (fun j => if j = 1 then Value.double z1 else fw1 j) = fw2 at aw97
          have hN1 : vn1.toInt = G1 := e397 (by decide)
          refine own_Go.st (fun _ kt => XS.goto X97.here hx rfl (pc0 := 214) (pc' := 218) rfl (hb hby at_214) (by decide) (by decide) kt) ?_
          show own_Go p e below _ (T97.setTop (mkF m 218 #[.val (.long p0), .second, .val (.long p1), .second, .val (.long p2), .second, .val (.int p3), .val (.int (3 : Int32)), .val (.int xat), .val (.int (1 : Int32)), .val (.int (1 : Int32)), .val (.ref rb), .val (.ref rw), .val (.long (1 : Int64)), .second, .unset, .unset, .unset, .unset, .unset, .unset, .unset, .unset] [(.long vn1)]))
          refine own_Go.st (fun _ kt => XS.lstore X97.here hx rfl (hb hby at_218) rfl (l' := #[.val (.long p0), .second, .val (.long p1), .second, .val (.long p2), .second, .val (.int p3), .val (.int (3 : Int32)), .val (.int xat), .val (.int (1 : Int32)), .val (.int (1 : Int32)), .val (.ref rb), .val (.ref rw), .val (.long (1 : Int64)), .second, .val (.long vn1), .second, .unset, .unset, .unset, .unset, .unset, .unset]) rfl kt) ?_
          show own_Go p e below _ (T97.setTop (mkF m 220 #[.val (.long p0), .second, .val (.long p1), .second, .val (.long p2), .second, .val (.int p3), .val (.int (3 : Int32)), .val (.int xat), .val (.int (1 : Int32)), .val (.int (1 : Int32)), .val (.ref rb), .val (.ref rw), .val (.long (1 : Int64)), .second, .val (.long vn1), .second, .unset, .unset, .unset, .unset, .unset, .unset] []))
          refine own_Go.st (fun _ kt => XS.iload X97.here hx rfl (hb hby at_220) rfl kt) ?_
          show own_Go p e below _ (T97.setTop (mkF m 222 #[.val (.long p0), .second, .val (.long p1), .second, .val (.long p2), .second, .val (.int p3), .val (.int (3 : Int32)), .val (.int xat), .val (.int (1 : Int32)), .val (.int (1 : Int32)), .val (.ref rb), .val (.ref rw), .val (.long (1 : Int64)), .second, .val (.long vn1), .second, .unset, .unset, .unset, .unset, .unset, .unset] [(.int (3 : Int32))]))
          refine own_Go.st (fun _ kt => XS.iconst X97.here hx rfl (hb hby at_222) kt) ?_
          show own_Go p e below _ (T97.setTop (mkF m 223 #[.val (.long p0), .second, .val (.long p1), .second, .val (.long p2), .second, .val (.int p3), .val (.int (3 : Int32)), .val (.int xat), .val (.int (1 : Int32)), .val (.int (1 : Int32)), .val (.ref rb), .val (.ref rw), .val (.long (1 : Int64)), .second, .val (.long vn1), .second, .unset, .unset, .unset, .unset, .unset, .unset] [(.int (2 : Int32)), (.int (3 : Int32))]))
          refine own_Go.st (fun _ kt => XS.icmpNo X97.here hx rfl (hb hby at_223) rfl (tlt (by decide)).2.2.2 kt) ?_
          show own_Go p e below _ (T97.setTop (mkF m 226 #[.val (.long p0), .second, .val (.long p1), .second, .val (.long p2), .second, .val (.int p3), .val (.int (3 : Int32)), .val (.int xat), .val (.int (1 : Int32)), .val (.int (1 : Int32)), .val (.ref rb), .val (.ref rw), .val (.long (1 : Int64)), .second, .val (.long vn1), .second, .unset, .unset, .unset, .unset, .unset, .unset] []))
          refine own_Go.st (fun _ kt => XS.lload X97.here hx rfl (hb hby at_226) rfl kt) ?_
          show own_Go p e below _ (T97.setTop (mkF m 228 #[.val (.long p0), .second, .val (.long p1), .second, .val (.long p2), .second, .val (.int p3), .val (.int (3 : Int32)), .val (.int xat), .val (.int (1 : Int32)), .val (.int (1 : Int32)), .val (.ref rb), .val (.ref rw), .val (.long (1 : Int64)), .second, .val (.long vn1), .second, .unset, .unset, .unset, .unset, .unset, .unset] [(.long p2)]))
          refine own_Go.st (fun _ kt => XS.iload X97.here hx rfl (hb hby at_228) rfl kt) ?_
          show own_Go p e below _ (T97.setTop (mkF m 230 #[.val (.long p0), .second, .val (.long p1), .second, .val (.long p2), .second, .val (.int p3), .val (.int (3 : Int32)), .val (.int xat), .val (.int (1 : Int32)), .val (.int (1 : Int32)), .val (.ref rb), .val (.ref rw), .val (.long (1 : Int64)), .second, .val (.long vn1), .second, .unset, .unset, .unset, .unset, .unset, .unset] [(.int (1 : Int32)), (.long p2)]))
          refine own_Go.st (fun _ kt => XS.iload X97.here hx rfl (hb hby at_230) rfl kt) ?_
          show own_Go p e below _ (T97.setTop (mkF m 232 #[.val (.long p0), .second, .val (.long p1), .second, .val (.long p2), .second, .val (.int p3), .val (.int (3 : Int32)), .val (.int xat), .val (.int (1 : Int32)), .val (.int (1 : Int32)), .val (.ref rb), .val (.ref rw), .val (.long (1 : Int64)), .second, .val (.long vn1), .second, .unset, .unset, .unset, .unset, .unset, .unset] [(.int (1 : Int32)), (.int (1 : Int32)), (.long p2)]))
          refine own_Go.st (fun _ kt => XS.iconst X97.here hx rfl (hb hby at_232) kt) ?_
          show own_Go p e below _ (T97.setTop (mkF m 233 #[.val (.long p0), .second, .val (.long p1), .second, .val (.long p2), .second, .val (.int p3), .val (.int (3 : Int32)), .val (.int xat), .val (.int (1 : Int32)), .val (.int (1 : Int32)), .val (.ref rb), .val (.ref rw), .val (.long (1 : Int64)), .second, .val (.long vn1), .second, .unset, .unset, .unset, .unset, .unset, .unset] [(.int (2 : Int32)), (.int (1 : Int32)), (.int (1 : Int32)), (.long p2)]))
          obtain ⟨_, _, ⟨T99, L99, k99, n99⟩, -, X99, ⟨Lc99, hQ99, l99, y99, z99⟩, st99⟩ := Jvm.LawKit.callS X97 hx (y := (⟨"com/example/thicket/thicket/PackedLevelGrownVolumePinLaw", "mode", "(ZII)I"⟩ : MethodName)) hown (mvT hZ (hw _ (List.mem_of_getElem? (i := 11) rfl))) (mvT hZ (hw _ (List.mem_of_getElem? (i := 12) rfl))) (mvT hZ (hw _ (List.mem_of_getElem? (i := 13) rfl))) (mvT hZ (hw _ (List.mem_of_getElem? (i := 14) rfl))) (by decide) (backOf (W := 2) (own_mode l Z a0 hw [] (1 : Int32) (1 : Int32) (2 : Int32) T97.heap n0 zz98 ) hZ (hw _ (List.mem_of_getElem? (i := 14) rfl)) (hw _ (List.mem_of_getElem? (i := 13) rfl)) (by decide) (by decide)) (g := (mkF m 233 #[.val (.long p0), .second, .val (.long p1), .second, .val (.long p2), .second, .val (.int p3), .val (.int (3 : Int32)), .val (.int xat), .val (.int (1 : Int32)), .val (.int (1 : Int32)), .val (.ref rb), .val (.ref rw), .val (.long (1 : Int64)), .second, .val (.long vn1), .second, .unset, .unset, .unset, .unset, .unset, .unset] [(.int (2 : Int32)), (.int (1 : Int32)), (.int (1 : Int32)), (.long p2)])) rfl (by rw [hml]; rfl) (argsL := [(.int (1 : Int32)), (.int (1 : Int32)), (.int (2 : Int32))]) (rest := [(.long p2)]) (lenOf own_pd1 rfl) rfl (by show 2 * 0 + _ ≤ _; exact Nat.le_of_eq rfl) (hb hby at_233) (fun _ _ => ⟨rfl, rfl, (by decide : 2 + 0 ≤ _), (by decide : 13 + 0 ≤ _)⟩)
          dsimp only [Pt.U, Pt.locs, Pt.cells, Pt.slots] at X99 l99 y99 z99 st99 hQ99
          subst l99 y99 z99
          obtain ⟨rfl, N99q, hh99⟩ := hQ99
          have N99 := Fr.app N97 N99q
          refine own_Go.st (fun _ kt => st99 _ kt) ?_
          show own_Go p e below _ (T99.setTop (mkF m 236 #[.val (.long p0), .second, .val (.long p1), .second, .val (.long p2), .second, .val (.int p3), .val (.int (3 : Int32)), .val (.int xat), .val (.int (1 : Int32)), .val (.int (1 : Int32)), .val (.ref rb), .val (.ref rw), .val (.long (1 : Int64)), .second, .val (.long vn1), .second, .unset, .unset, .unset, .unset, .unset, .unset] [(.int (if (1 : Int32) = 0 then (0 : Int32) else if (2 : Int32) = (1 : Int32) then 1 else 2)), (.long p2)]))
          rw [show (if (1 : Int32) = 0 then (0 : Int32) else if (2 : Int32) = (1 : Int32) then 1 else 2) = (2 : Int32) from (by decide)]
          show own_Go p e below _ (T99.setTop (mkF m 236 #[.val (.long p0), .second, .val (.long p1), .second, .val (.long p2), .second, .val (.int p3), .val (.int (3 : Int32)), .val (.int xat), .val (.int (1 : Int32)), .val (.int (1 : Int32)), .val (.ref rb), .val (.ref rw), .val (.long (1 : Int64)), .second, .val (.long vn1), .second, .unset, .unset, .unset, .unset, .unset, .unset] [(.int (2 : Int32)), (.long p2)]))
          refine own_Go.st (fun _ kt => XS.aload X99.here hx rfl (hb hby at_236) rfl rfl kt) ?_
          show own_Go p e below _ (T99.setTop (mkF m 238 #[.val (.long p0), .second, .val (.long p1), .second, .val (.long p2), .second, .val (.int p3), .val (.int (3 : Int32)), .val (.int xat), .val (.int (1 : Int32)), .val (.int (1 : Int32)), .val (.ref rb), .val (.ref rw), .val (.long (1 : Int64)), .second, .val (.long vn1), .second, .unset, .unset, .unset, .unset, .unset, .unset] [(.ref rb), (.int (2 : Int32)), (.long p2)]))
          refine own_Go.st (fun _ kt => XS.iload X99.here hx rfl (hb hby at_238) rfl kt) ?_
          show own_Go p e below _ (T99.setTop (mkF m 240 #[.val (.long p0), .second, .val (.long p1), .second, .val (.long p2), .second, .val (.int p3), .val (.int (3 : Int32)), .val (.int xat), .val (.int (1 : Int32)), .val (.int (1 : Int32)), .val (.ref rb), .val (.ref rw), .val (.long (1 : Int64)), .second, .val (.long vn1), .second, .unset, .unset, .unset, .unset, .unset, .unset] [(.int xat), (.ref rb), (.int (2 : Int32)), (.long p2)]))
          refine own_Go.st (fun _ kt => XS.iconst X99.here hx rfl (hb hby at_240) kt) ?_
          show own_Go p e below _ (T99.setTop (mkF m 241 #[.val (.long p0), .second, .val (.long p1), .second, .val (.long p2), .second, .val (.int p3), .val (.int (3 : Int32)), .val (.int xat), .val (.int (1 : Int32)), .val (.int (1 : Int32)), .val (.ref rb), .val (.ref rw), .val (.long (1 : Int64)), .second, .val (.long vn1), .second, .unset, .unset, .unset, .unset, .unset, .unset] [(.int (2 : Int32)), (.int xat), (.ref rb), (.int (2 : Int32)), (.long p2)]))
          refine own_Go.st (fun _ kt => XS.iadd X99.here hx rfl (hb hby at_241) rfl kt) ?_
          show own_Go p e below _ (T99.setTop (mkF m 242 #[.val (.long p0), .second, .val (.long p1), .second, .val (.long p2), .second, .val (.int p3), .val (.int (3 : Int32)), .val (.int xat), .val (.int (1 : Int32)), .val (.int (1 : Int32)), .val (.ref rb), .val (.ref rw), .val (.long (1 : Int64)), .second, .val (.long vn1), .second, .unset, .unset, .unset, .unset, .unset, .unset] [(.int (xat + (2 : Int32))), (.ref rb), (.int (2 : Int32)), (.long p2)]))
          refine own_Go.st (fun _ kt => XS.iload X99.here hx rfl (hb hby at_242) rfl kt) ?_
          show own_Go p e below _ (T99.setTop (mkF m 244 #[.val (.long p0), .second, .val (.long p1), .second, .val (.long p2), .second, .val (.int p3), .val (.int (3 : Int32)), .val (.int xat), .val (.int (1 : Int32)), .val (.int (1 : Int32)), .val (.ref rb), .val (.ref rw), .val (.long (1 : Int64)), .second, .val (.long vn1), .second, .unset, .unset, .unset, .unset, .unset, .unset] [(.int xat), (.int (xat + (2 : Int32))), (.ref rb), (.int (2 : Int32)), (.long p2)]))
          refine own_Go.st (fun _ kt => XS.iload X99.here hx rfl (hb hby at_244) rfl kt) ?_
          show own_Go p e below _ (T99.setTop (mkF m 246 #[.val (.long p0), .second, .val (.long p1), .second, .val (.long p2), .second, .val (.int p3), .val (.int (3 : Int32)), .val (.int xat), .val (.int (1 : Int32)), .val (.int (1 : Int32)), .val (.ref rb), .val (.ref rw), .val (.long (1 : Int64)), .second, .val (.long vn1), .second, .unset, .unset, .unset, .unset, .unset, .unset] [(.int (3 : Int32)), (.int xat), (.int (xat + (2 : Int32))), (.ref rb), (.int (2 : Int32)), (.long p2)]))
          refine own_Go.st (fun _ kt => XS.iadd X99.here hx rfl (hb hby at_246) rfl kt) ?_
          show own_Go p e below _ (T99.setTop (mkF m 247 #[.val (.long p0), .second, .val (.long p1), .second, .val (.long p2), .second, .val (.int p3), .val (.int (3 : Int32)), .val (.int xat), .val (.int (1 : Int32)), .val (.int (1 : Int32)), .val (.ref rb), .val (.ref rw), .val (.long (1 : Int64)), .second, .val (.long vn1), .second, .unset, .unset, .unset, .unset, .unset, .unset] [(.int (xat + (3 : Int32))), (.int (xat + (2 : Int32))), (.ref rb), (.int (2 : Int32)), (.long p2)]))
          refine own_Go.st (fun _ kt => XS.iconst X99.here hx rfl (hb hby at_247) kt) ?_
          show own_Go p e below _ (T99.setTop (mkF m 248 #[.val (.long p0), .second, .val (.long p1), .second, .val (.long p2), .second, .val (.int p3), .val (.int (3 : Int32)), .val (.int xat), .val (.int (1 : Int32)), .val (.int (1 : Int32)), .val (.ref rb), .val (.ref rw), .val (.long (1 : Int64)), .second, .val (.long vn1), .second, .unset, .unset, .unset, .unset, .unset, .unset] [(.int (2 : Int32)), (.int (xat + (3 : Int32))), (.int (xat + (2 : Int32))), (.ref rb), (.int (2 : Int32)), (.long p2)]))
          refine own_Go.st (fun _ kt => XS.iadd X99.here hx rfl (hb hby at_248) rfl kt) ?_
          show own_Go p e below _ (T99.setTop (mkF m 249 #[.val (.long p0), .second, .val (.long p1), .second, .val (.long p2), .second, .val (.int p3), .val (.int (3 : Int32)), .val (.int xat), .val (.int (1 : Int32)), .val (.int (1 : Int32)), .val (.ref rb), .val (.ref rw), .val (.long (1 : Int64)), .second, .val (.long vn1), .second, .unset, .unset, .unset, .unset, .unset, .unset] [(.int ((xat + (3 : Int32)) + (2 : Int32))), (.int (xat + (2 : Int32))), (.ref rb), (.int (2 : Int32)), (.long p2)]))
          refine own_Go.st (fun _ kt => XS.aload X99.here hx rfl (hb hby at_249) rfl rfl kt) ?_
          show own_Go p e below _ (T99.setTop (mkF m 251 #[.val (.long p0), .second, .val (.long p1), .second, .val (.long p2), .second, .val (.int p3), .val (.int (3 : Int32)), .val (.int xat), .val (.int (1 : Int32)), .val (.int (1 : Int32)), .val (.ref rb), .val (.ref rw), .val (.long (1 : Int64)), .second, .val (.long vn1), .second, .unset, .unset, .unset, .unset, .unset, .unset] [(.ref rw), (.int ((xat + (3 : Int32)) + (2 : Int32))), (.int (xat + (2 : Int32))), (.ref rb), (.int (2 : Int32)), (.long p2)]))
          refine own_Go.st (fun _ kt => XS.iconst X99.here hx rfl (hb hby at_251) kt) ?_
          show own_Go p e below _ (T99.setTop (mkF m 252 #[.val (.long p0), .second, .val (.long p1), .second, .val (.long p2), .second, .val (.int p3), .val (.int (3 : Int32)), .val (.int xat), .val (.int (1 : Int32)), .val (.int (1 : Int32)), .val (.ref rb), .val (.ref rw), .val (.long (1 : Int64)), .second, .val (.long vn1), .second, .unset, .unset, .unset, .unset, .unset, .unset] [(.int (2 : Int32)), (.ref rw), (.int ((xat + (3 : Int32)) + (2 : Int32))), (.int (xat + (2 : Int32))), (.ref rb), (.int (2 : Int32)), (.long p2)]))
          obtain ⟨_, _, ⟨T100, L100, k100, n100⟩, -, X100, ⟨Lc100, hQ100, l100, y100, z100⟩, st100⟩ := Jvm.LawKit.callS X99 hx (y := (⟨"com/example/thicket/thicket/PackedLevelGrownVolumePinLaw", "fill", "(JI[DII[DI)J"⟩ : MethodName)) hown (mvT hZ (hw _ (List.mem_of_getElem? (i := 15) rfl))) (mvT hZ (hw _ (List.mem_of_getElem? (i := 16) rfl))) (mvT hZ (hw _ (List.mem_of_getElem? (i := 13) rfl))) (mvT hZ (hw _ (List.mem_of_getElem? (i := 17) rfl))) (by decide) (backOf (W := 0) (own_fill l Z a0 hw [] p2 (2 : Int32) rb (xat + (2 : Int32)) ((xat + (3 : Int32)) + (2 : Int32)) rw (2 : Int32) (ia + 2) (ia + 3 + 2) 2 3 fb2 fw2 T97.heap n0 zz98 ab97 aw97 ne_rb_rw n0_rb n0_rw (own_addn hat (e := 2) (by decide) (by omega) (by decide)) (own_addn (own_addn hat (e := 3) (by decide) (by omega) (by decide)) (e := 2) (by decide) (by omega) (by decide)) (by decide) (by omega) (by omega) (by decide) (by decide)) hZ (hw _ (List.mem_of_getElem? (i := 17) rfl)) (hw _ (List.mem_of_getElem? (i := 13) rfl)) (by decide) (by decide)) (g := (mkF m 252 #[.val (.long p0), .second, .val (.long p1), .second, .val (.long p2), .second, .val (.int p3), .val (.int (3 : Int32)), .val (.int xat), .val (.int (1 : Int32)), .val (.int (1 : Int32)), .val (.ref rb), .val (.ref rw), .val (.long (1 : Int64)), .second, .val (.long vn1), .second, .unset, .unset, .unset, .unset, .unset, .unset] [(.int (2 : Int32)), (.ref rw), (.int ((xat + (3 : Int32)) + (2 : Int32))), (.int (xat + (2 : Int32))), (.ref rb), (.int (2 : Int32)), (.long p2)])) rfl (by rw [hml]; rfl) (argsL := [(.long p2), (.int (2 : Int32)), (.ref rb), (.int (xat + (2 : Int32))), (.int ((xat + (3 : Int32)) + (2 : Int32))), (.ref rw), (.int (2 : Int32))]) (rest := []) (lenOf own_pd2 rfl) rfl (by show 2 * 0 + _ ≤ _; exact Nat.le_of_eq rfl) (hb hby at_252) (fun _ _ => ⟨rfl, hh99, (by decide : 2 + 0 ≤ _), (by decide : 13 + 0 ≤ _)⟩)
          dsimp only [Pt.U, Pt.locs, Pt.cells, Pt.slots] at X100 l100 y100 z100 st100 hQ100
          subst l100 y100 z100
          obtain ⟨vn2, x2, y2, z2, G2, rfl, N100q, ex100, e2100, e3100, ab100, aw100, KF100⟩ := hQ100
          have N100 := Fr.app N99 N100q
          refine own_Go.st (fun _ kt => st100 _ kt) ?_
          have zz101 : n0 ≤ Array.size T100.heap := Nat.le_trans zz98 KF100.1
          show own_Go p e below _ (T100.setTop (mkF m 255 #[.val (.long p0), .second, .val (.long p1), .second, .val (.long p2), .second, .val (.int p3), .val (.int (3 : Int32)), .val (.int xat), .val (.int (1 : Int32)), .val (.int (1 : Int32)), .val (.ref rb), .val (.ref rw), .val (.long (1 : Int64)), .second, .val (.long vn1), .second, .unset, .unset, .unset, .unset, .unset, .unset] [(.long vn2)]))
          generalize hfb3 : (fun j => if j = (ia + 3 + 2) then Value.double y2 else if j = (ia + 2) then Value.double x2 else fb2 j) = fb3 at ab100
          generalize hfw3 : (fun j => if j = 2 then Value.double z2 else fw2 j) = fw3 at aw100
          obtain ⟨rfl, rfl⟩ := e2100 rfl
          show own_Go p e below _ (T100.setTop (mkF m 255 #[.val (.long p0), .second, .val (.long p1), .second, .val (.long p2), .second, .val (.int p3), .val (.int (3 : Int32)), .val (.int xat), .val (.int (1 : Int32)), .val (.int (1 : Int32)), .val (.ref rb), .val (.ref rw), .val (.long (1 : Int64)), .second, .val (.long vn1), .second, .unset, .unset, .unset, .unset, .unset, .unset] [(.long (1 : Int64))]))
          refine own_Go.st (fun _ kt => XS.goto X100.here hx rfl (pc0 := 255) (pc' := 259) rfl (hb hby at_255) (by decide) (by decide) kt) ?_
          show own_Go p e below _ (T100.setTop (mkF m 259 #[.val (.long p0), .second, .val (.long p1), .second, .val (.long p2), .second, .val (.int p3), .val (.int (3 : Int32)), .val (.int xat), .val (.int (1 : Int32)), .val (.int (1 : Int32)), .val (.ref rb), .val (.ref rw), .val (.long (1 : Int64)), .second, .val (.long vn1), .second, .unset, .unset, .unset, .unset, .unset, .unset] [(.long (1 : Int64))]))
          refine own_Go.st (fun _ kt => XS.lstore X100.here hx rfl (hb hby at_259) rfl (l' := #[.val (.long p0), .second, .val (.long p1), .second, .val (.long p2), .second, .val (.int p3), .val (.int (3 : Int32)), .val (.int xat), .val (.int (1 : Int32)), .val (.int (1 : Int32)), .val (.ref rb), .val (.ref rw), .val (.long (1 : Int64)), .second, .val (.long vn1), .second, .val (.long (1 : Int64)), .second, .unset, .unset, .unset, .unset]) rfl kt) ?_
          show own_Go p e below _ (T100.setTop (mkF m 261 #[.val (.long p0), .second, .val (.long p1), .second, .val (.long p2), .second, .val (.int p3), .val (.int (3 : Int32)), .val (.int xat), .val (.int (1 : Int32)), .val (.int (1 : Int32)), .val (.ref rb), .val (.ref rw), .val (.long (1 : Int64)), .second, .val (.long vn1), .second, .val (.long (1 : Int64)), .second, .unset, .unset, .unset, .unset] []))
          refine own_Go.st (fun _ kt => XS.aload X100.here hx rfl (hb hby at_261) rfl rfl kt) ?_
          show own_Go p e below _ (T100.setTop (mkF m 263 #[.val (.long p0), .second, .val (.long p1), .second, .val (.long p2), .second, .val (.int p3), .val (.int (3 : Int32)), .val (.int xat), .val (.int (1 : Int32)), .val (.int (1 : Int32)), .val (.ref rb), .val (.ref rw), .val (.long (1 : Int64)), .second, .val (.long vn1), .second, .val (.long (1 : Int64)), .second, .unset, .unset, .unset, .unset] [(.ref rb)]))
          refine own_Go.st (fun _ kt => XS.iload X100.here hx rfl (hb hby at_263) rfl kt) ?_
          show own_Go p e below _ (T100.setTop (mkF m 265 #[.val (.long p0), .second, .val (.long p1), .second, .val (.long p2), .second, .val (.int p3), .val (.int (3 : Int32)), .val (.int xat), .val (.int (1 : Int32)), .val (.int (1 : Int32)), .val (.ref rb), .val (.ref rw), .val (.long (1 : Int64)), .second, .val (.long vn1), .second, .val (.long (1 : Int64)), .second, .unset, .unset, .unset, .unset] [(.int xat), (.ref rb)]))
          refine own_Go.st (fun _ kt => XS.aload X100.here hx rfl (hb hby at_265) rfl rfl kt) ?_
          show own_Go p e below _ (T100.setTop (mkF m 267 #[.val (.long p0), .second, .val (.long p1), .second, .val (.long p2), .second, .val (.int p3), .val (.int (3 : Int32)), .val (.int xat), .val (.int (1 : Int32)), .val (.int (1 : Int32)), .val (.ref rb), .val (.ref rw), .val (.long (1 : Int64)), .second, .val (.long vn1), .second, .val (.long (1 : Int64)), .second, .unset, .unset, .unset, .unset] [(.ref rw), (.int xat), (.ref rb)]))
          have fx0 : fb3 (ia + 0) = .double x0 := by
            subst hfb3 hfb2 hfb1
            dsimp only
            repeat (first | rw [if_pos (by omega)] | rw [if_neg (by omega)])
          have fy0 : fb3 (ia + 3 + 0) = .double y0 := by
            subst hfb3 hfb2 hfb1
            dsimp only
            repeat (first | rw [if_pos (by omega)] | rw [if_neg (by omega)])
          have fz0 : fw3 0 = .double z0 := by
            subst hfw3 hfw2 hfw1
            rfl
          have fx1 : fb3 (ia + 1) = .double x1 := by
            subst hfb3 hfb2 hfb1
            dsimp only
            repeat (first | rw [if_pos (by omega)] | rw [if_neg (by omega)])
          have fy1 : fb3 (ia + 3 + 1) = .double y1 := by
            subst hfb3 hfb2 hfb1
            dsimp only
            repeat (first | rw [if_pos (by omega)] | rw [if_neg (by omega)])
          have fz1 : fw3 1 = .double z1 := by
            subst hfw3 hfw2 hfw1
            rfl
          have fx2 : fb3 (ia + 2) = .double x2 := by
            subst hfb3 hfb2 hfb1
            dsimp only
            repeat (first | rw [if_pos (by omega)] | rw [if_neg (by omega)])
          have fy2 : fb3 (ia + 3 + 2) = .double y2 := by
            subst hfb3 hfb2 hfb1
            dsimp only
            repeat (first | rw [if_pos (by omega)] | rw [if_neg (by omega)])
          have fz2 : fw3 2 = .double z2 := by
            subst hfw3 hfw2 hfw1
            rfl
          have bN0 := own_nb ex94
          have bN1 := own_nb ex97
          have bN2 := own_nb ex100
          have r1 : own_Rep (4 * G1 * ((2 ^ 2079 : Nat) : Int)) := own_rep2 _ _ 34 (by decide) (by omega)
          have r2 : own_Rep (4 * G1 * 4 * ((2 ^ 2077 : Nat) : Int)) := own_rep2 _ _ 32 (by decide) (by omega)
          obtain ⟨_, _, ⟨T102, L102, k102, n102⟩, -, X102, ⟨Lc102, hQ102, l102, y102, z102⟩, st102⟩ := Jvm.LawKit.callS X100 hx (y := (⟨"com/example/thicket/thicket/PackedLevel", "grownVolume", "([DI[D)D"⟩ : MethodName)) hown (mvT hZ (hw _ (List.mem_of_getElem? (i := 28) rfl))) (mvT hZ (hw _ (List.mem_of_getElem? (i := 29) rfl))) (mvT hZ (hw _ (List.mem_of_getElem? (i := 30) rfl))) (mvT hZ (hw _ (List.mem_of_getElem? (i := 31) rfl))) (by decide) (backOf (W := 0) (own_gv3 l Z a0 hw [] rb xat rw ia fb3 fw3 x0 y0 z0 4 1072 x1 y1 z1 G1 2081 x2 y2 z2 4 1072 2079 2077 T100.heap n0 zz101 ab100 aw100 hat la ex94 (by decide) fx0 fy0 fz0 ex97 (by decide) fx1 fy1 fz1 ex100 (by decide) fx2 fy2 fz2 (by decide) (by decide) r1 r2) hZ (hw _ (List.mem_of_getElem? (i := 31) rfl)) (hw _ (List.mem_of_getElem? (i := 30) rfl)) (by decide) (by decide)) (g := (mkF m 267 #[.val (.long p0), .second, .val (.long p1), .second, .val (.long p2), .second, .val (.int p3), .val (.int (3 : Int32)), .val (.int xat), .val (.int (1 : Int32)), .val (.int (1 : Int32)), .val (.ref rb), .val (.ref rw), .val (.long (1 : Int64)), .second, .val (.long vn1), .second, .val (.long (1 : Int64)), .second, .unset, .unset, .unset, .unset] [(.ref rw), (.int xat), (.ref rb)])) rfl (by rw [hml]; rfl) (argsL := [(.ref rb), (.int xat), (.ref rw)]) (rest := []) (lenOf own_pd3 rfl) rfl (by show 2 * 0 + _ ≤ _; exact Nat.le_of_eq rfl) (hb hby at_267) (fun _ _ => ⟨rfl, rfl, (by decide : 2 + 0 ≤ _), (by decide : 13 + 0 ≤ _)⟩)
          dsimp only [Pt.U, Pt.locs, Pt.cells, Pt.slots] at X102 l102 y102 z102 st102 hQ102
          subst l102 y102 z102
          obtain ⟨d, rfl, N102q, hv102, hh102⟩ := hQ102
          have N102 := Fr.app N100 N102q
          refine own_Go.st (fun _ kt => st102 _ kt) ?_
          show own_Go p e below _ (T102.setTop (mkF m 270 #[.val (.long p0), .second, .val (.long p1), .second, .val (.long p2), .second, .val (.int p3), .val (.int (3 : Int32)), .val (.int xat), .val (.int (1 : Int32)), .val (.int (1 : Int32)), .val (.ref rb), .val (.ref rw), .val (.long (1 : Int64)), .second, .val (.long vn1), .second, .val (.long (1 : Int64)), .second, .unset, .unset, .unset, .unset] [(.double d)]))
          refine own_Go.st (fun _ kt => XS.dstore X102.here hx rfl (hb hby at_270) rfl (l' := #[.val (.long p0), .second, .val (.long p1), .second, .val (.long p2), .second, .val (.int p3), .val (.int (3 : Int32)), .val (.int xat), .val (.int (1 : Int32)), .val (.int (1 : Int32)), .val (.ref rb), .val (.ref rw), .val (.long (1 : Int64)), .second, .val (.long vn1), .second, .val (.long (1 : Int64)), .second, .val (.double d), .second, .unset, .unset]) rfl kt) ?_
          show own_Go p e below _ (T102.setTop (mkF m 272 #[.val (.long p0), .second, .val (.long p1), .second, .val (.long p2), .second, .val (.int p3), .val (.int (3 : Int32)), .val (.int xat), .val (.int (1 : Int32)), .val (.int (1 : Int32)), .val (.ref rb), .val (.ref rw), .val (.long (1 : Int64)), .second, .val (.long vn1), .second, .val (.long (1 : Int64)), .second, .val (.double d), .second, .unset, .unset] []))
          refine own_Go.st (fun _ kt => XS.iload X102.here hx rfl (hb hby at_272) rfl kt) ?_
          show own_Go p e below _ (T102.setTop (mkF m 274 #[.val (.long p0), .second, .val (.long p1), .second, .val (.long p2), .second, .val (.int p3), .val (.int (3 : Int32)), .val (.int xat), .val (.int (1 : Int32)), .val (.int (1 : Int32)), .val (.ref rb), .val (.ref rw), .val (.long (1 : Int64)), .second, .val (.long vn1), .second, .val (.long (1 : Int64)), .second, .val (.double d), .second, .unset, .unset] [(.int (1 : Int32))]))
          refine own_Go.st (fun _ kt => XS.ifNo X102.here hx rfl (hb hby at_274) rfl ((if0 _ _).trans (feq (by decide)).1) kt) ?_
          show own_Go p e below _ (T102.setTop (mkF m 277 #[.val (.long p0), .second, .val (.long p1), .second, .val (.long p2), .second, .val (.int p3), .val (.int (3 : Int32)), .val (.int xat), .val (.int (1 : Int32)), .val (.int (1 : Int32)), .val (.ref rb), .val (.ref rw), .val (.long (1 : Int64)), .second, .val (.long vn1), .second, .val (.long (1 : Int64)), .second, .val (.double d), .second, .unset, .unset] []))
          refine own_Go.st (fun _ kt => XS.iload X102.here hx rfl (hb hby at_277) rfl kt) ?_
          show own_Go p e below _ (T102.setTop (mkF m 279 #[.val (.long p0), .second, .val (.long p1), .second, .val (.long p2), .second, .val (.int p3), .val (.int (3 : Int32)), .val (.int xat), .val (.int (1 : Int32)), .val (.int (1 : Int32)), .val (.ref rb), .val (.ref rw), .val (.long (1 : Int64)), .second, .val (.long vn1), .second, .val (.long (1 : Int64)), .second, .val (.double d), .second, .unset, .unset] [(.int (1 : Int32))]))
          refine own_Go.st (fun _ kt => XS.ifYes X102.here hx rfl (pc0 := 279) (pc' := 287) rfl (hb hby at_279) rfl ((if0 _ _).trans (feq (by decide)).2) (by decide) (by decide) kt) ?_
          show own_Go p e below _ (T102.setTop (mkF m 287 #[.val (.long p0), .second, .val (.long p1), .second, .val (.long p2), .second, .val (.int p3), .val (.int (3 : Int32)), .val (.int xat), .val (.int (1 : Int32)), .val (.int (1 : Int32)), .val (.ref rb), .val (.ref rw), .val (.long (1 : Int64)), .second, .val (.long vn1), .second, .val (.long (1 : Int64)), .second, .val (.double d), .second, .unset, .unset] []))
          refine own_Go.st (fun _ kt => XS.iload X102.here hx rfl (hb hby at_287) rfl kt) ?_
          show own_Go p e below _ (T102.setTop (mkF m 289 #[.val (.long p0), .second, .val (.long p1), .second, .val (.long p2), .second, .val (.int p3), .val (.int (3 : Int32)), .val (.int xat), .val (.int (1 : Int32)), .val (.int (1 : Int32)), .val (.ref rb), .val (.ref rw), .val (.long (1 : Int64)), .second, .val (.long vn1), .second, .val (.long (1 : Int64)), .second, .val (.double d), .second, .unset, .unset] [(.int (1 : Int32))]))
          refine own_Go.st (fun _ kt => XS.iconst X102.here hx rfl (hb hby at_289) kt) ?_
          show own_Go p e below _ (T102.setTop (mkF m 290 #[.val (.long p0), .second, .val (.long p1), .second, .val (.long p2), .second, .val (.int p3), .val (.int (3 : Int32)), .val (.int xat), .val (.int (1 : Int32)), .val (.int (1 : Int32)), .val (.ref rb), .val (.ref rw), .val (.long (1 : Int64)), .second, .val (.long vn1), .second, .val (.long (1 : Int64)), .second, .val (.double d), .second, .unset, .unset] [(.int (1 : Int32)), (.int (1 : Int32))]))
          refine own_Go.st (fun _ kt => XS.icmpNo X102.here hx rfl (hb hby at_290) rfl (teq rfl).2 kt) ?_
          show own_Go p e below _ (T102.setTop (mkF m 293 #[.val (.long p0), .second, .val (.long p1), .second, .val (.long p2), .second, .val (.int p3), .val (.int (3 : Int32)), .val (.int xat), .val (.int (1 : Int32)), .val (.int (1 : Int32)), .val (.ref rb), .val (.ref rw), .val (.long (1 : Int64)), .second, .val (.long vn1), .second, .val (.long (1 : Int64)), .second, .val (.double d), .second, .unset, .unset] []))
          refine own_Go.st (fun _ kt => XS.lload X102.here hx rfl (hb hby at_293) rfl kt) ?_
          show own_Go p e below _ (T102.setTop (mkF m 295 #[.val (.long p0), .second, .val (.long p1), .second, .val (.long p2), .second, .val (.int p3), .val (.int (3 : Int32)), .val (.int xat), .val (.int (1 : Int32)), .val (.int (1 : Int32)), .val (.ref rb), .val (.ref rw), .val (.long (1 : Int64)), .second, .val (.long vn1), .second, .val (.long (1 : Int64)), .second, .val (.double d), .second, .unset, .unset] [(.long vn1)]))
          refine own_Go.st (fun _ kt => XS.goto X102.here hx rfl (pc0 := 295) (pc' := 300) rfl (hb hby at_295) (by decide) (by decide) kt) ?_
          show own_Go p e below _ (T102.setTop (mkF m 300 #[.val (.long p0), .second, .val (.long p1), .second, .val (.long p2), .second, .val (.int p3), .val (.int (3 : Int32)), .val (.int xat), .val (.int (1 : Int32)), .val (.int (1 : Int32)), .val (.ref rb), .val (.ref rw), .val (.long (1 : Int64)), .second, .val (.long vn1), .second, .val (.long (1 : Int64)), .second, .val (.double d), .second, .unset, .unset] [(.long vn1)]))
          refine own_Go.st (fun _ kt => XS.lstore X102.here hx rfl (hb hby at_300) rfl (l' := #[.val (.long p0), .second, .val (.long p1), .second, .val (.long p2), .second, .val (.int p3), .val (.int (3 : Int32)), .val (.int xat), .val (.int (1 : Int32)), .val (.int (1 : Int32)), .val (.ref rb), .val (.ref rw), .val (.long (1 : Int64)), .second, .val (.long vn1), .second, .val (.long (1 : Int64)), .second, .val (.double d), .second, .val (.long vn1), .second]) rfl kt) ?_
          show own_Go p e below _ (T102.setTop (mkF m 302 #[.val (.long p0), .second, .val (.long p1), .second, .val (.long p2), .second, .val (.int p3), .val (.int (3 : Int32)), .val (.int xat), .val (.int (1 : Int32)), .val (.int (1 : Int32)), .val (.ref rb), .val (.ref rw), .val (.long (1 : Int64)), .second, .val (.long vn1), .second, .val (.long (1 : Int64)), .second, .val (.double d), .second, .val (.long vn1), .second] []))
          refine own_Go.st (fun _ kt => XS.dload X102.here hx rfl (hb hby at_302) rfl kt) ?_
          show own_Go p e below _ (T102.setTop (mkF m 304 #[.val (.long p0), .second, .val (.long p1), .second, .val (.long p2), .second, .val (.int p3), .val (.int (3 : Int32)), .val (.int xat), .val (.int (1 : Int32)), .val (.int (1 : Int32)), .val (.ref rb), .val (.ref rw), .val (.long (1 : Int64)), .second, .val (.long vn1), .second, .val (.long (1 : Int64)), .second, .val (.double d), .second, .val (.long vn1), .second] [(.double d)]))
          refine own_Go.st (fun _ kt => XS.lload X102.here hx rfl (hb hby at_304) rfl kt) ?_
          show own_Go p e below _ (T102.setTop (mkF m 306 #[.val (.long p0), .second, .val (.long p1), .second, .val (.long p2), .second, .val (.int p3), .val (.int (3 : Int32)), .val (.int xat), .val (.int (1 : Int32)), .val (.int (1 : Int32)), .val (.ref rb), .val (.ref rw), .val (.long (1 : Int64)), .second, .val (.long vn1), .second, .val (.long (1 : Int64)), .second, .val (.double d), .second, .val (.long vn1), .second] [(.long vn1), (.double d)]))
          refine own_Go.st (fun _ kt => XS.l2dS X102.here hx rfl (hb hby at_306) rfl rfl kt) ?_
          show own_Go p e below _ (T102.setTop (mkF m 307 #[.val (.long p0), .second, .val (.long p1), .second, .val (.long p2), .second, .val (.int p3), .val (.int (3 : Int32)), .val (.int xat), .val (.int (1 : Int32)), .val (.int (1 : Int32)), .val (.ref rb), .val (.ref rw), .val (.long (1 : Int64)), .second, .val (.long vn1), .second, .val (.long (1 : Int64)), .second, .val (.double d), .second, .val (.long vn1), .second] [(.double (FP.l2d vn1)), (.double d)]))
          refine own_Go.st (fun _ kt => X102.ldc2DoubleC hx hown (mvT hZ (hw _ (List.mem_of_getElem? (i := 35) rfl))) (g := (mkF m 307 #[.val (.long p0), .second, .val (.long p1), .second, .val (.long p2), .second, .val (.int p3), .val (.int (3 : Int32)), .val (.int xat), .val (.int (1 : Int32)), .val (.int (1 : Int32)), .val (.ref rb), .val (.ref rw), .val (.long (1 : Int64)), .second, .val (.long vn1), .second, .val (.long (1 : Int64)), .second, .val (.double d), .second, .val (.long vn1), .second] [(.double (FP.l2d vn1)), (.double d)])) rfl (hb hby at_307) _ kt) ?_
          show own_Go p e below _ (T102.setTop (mkF m 310 #[.val (.long p0), .second, .val (.long p1), .second, .val (.long p2), .second, .val (.int p3), .val (.int (3 : Int32)), .val (.int xat), .val (.int (1 : Int32)), .val (.int (1 : Int32)), .val (.ref rb), .val (.ref rw), .val (.long (1 : Int64)), .second, .val (.long vn1), .second, .val (.long (1 : Int64)), .second, .val (.double d), .second, .val (.long vn1), .second] [(.double (9142307243562106880 : UInt64)), (.double (FP.l2d vn1)), (.double d)]))
          have hl := own_l2d (a := vn1) (by omega)
          rw [hN1] at hl
          have hm := own_mulP (D := 2081) hl own_D1007 (by decide) (by rw [Int.mul_one]; exact own_rep2 _ _ 36 (by decide) (by omega))
          rw [Int.mul_one] at hm
          refine own_Go.st (fun _ kt => XS.dmulS X102.here hx rfl (hb hby at_310) rfl (hm.n64) rfl kt) ?_
          show own_Go p e below _ (T102.setTop (mkF m 311 #[.val (.long p0), .second, .val (.long p1), .second, .val (.long p2), .second, .val (.int p3), .val (.int (3 : Int32)), .val (.int xat), .val (.int (1 : Int32)), .val (.int (1 : Int32)), .val (.ref rb), .val (.ref rw), .val (.long (1 : Int64)), .second, .val (.long vn1), .second, .val (.long (1 : Int64)), .second, .val (.double d), .second, .val (.long vn1), .second] [(.double (FP.dmul (FP.l2d vn1) (9142307243562106880 : UInt64))), (.double d)]))
          have heq : 4 * G1 * 4 * ((2 ^ 2077 : Nat) : Int) = G1 * ((2 ^ 2081 : Nat) : Int) := own_four3b G1
          rw [heq] at hv102
          refine own_Go.st (fun _ kt => XS.dcmpS X102.here hx rfl (hb hby at_311) rfl (own_deq hv102 hm _) kt) ?_
          show own_Go p e below _ (T102.setTop (mkF m 312 #[.val (.long p0), .second, .val (.long p1), .second, .val (.long p2), .second, .val (.int p3), .val (.int (3 : Int32)), .val (.int xat), .val (.int (1 : Int32)), .val (.int (1 : Int32)), .val (.ref rb), .val (.ref rw), .val (.long (1 : Int64)), .second, .val (.long vn1), .second, .val (.long (1 : Int64)), .second, .val (.double d), .second, .val (.long vn1), .second] [(.int (0 : Int32))]))
          refine own_Go.st (fun _ kt => XS.ifNo X102.here hx rfl (hb hby at_312) rfl ((if0 _ _).trans (teq rfl).2) kt) ?_
          show own_Go p e below _ (T102.setTop (mkF m 315 #[.val (.long p0), .second, .val (.long p1), .second, .val (.long p2), .second, .val (.int p3), .val (.int (3 : Int32)), .val (.int xat), .val (.int (1 : Int32)), .val (.int (1 : Int32)), .val (.ref rb), .val (.ref rw), .val (.long (1 : Int64)), .second, .val (.long vn1), .second, .val (.long (1 : Int64)), .second, .val (.double d), .second, .val (.long vn1), .second] []))
          refine own_Go.st (fun _ kt => XS.iconst X102.here hx rfl (hb hby at_315) kt) ?_
          show own_Go p e below _ (T102.setTop (mkF m 316 #[.val (.long p0), .second, .val (.long p1), .second, .val (.long p2), .second, .val (.int p3), .val (.int (3 : Int32)), .val (.int xat), .val (.int (1 : Int32)), .val (.int (1 : Int32)), .val (.ref rb), .val (.ref rw), .val (.long (1 : Int64)), .second, .val (.long vn1), .second, .val (.long (1 : Int64)), .second, .val (.double d), .second, .val (.long vn1), .second] [(.int (1 : Int32))]))
          refine own_Go.st (fun _ kt => XS.goto X102.here hx rfl (pc0 := 316) (pc' := 320) rfl (hb hby at_316) (by decide) (by decide) kt) ?_
          show own_Go p e below _ (T102.setTop (mkF m 320 #[.val (.long p0), .second, .val (.long p1), .second, .val (.long p2), .second, .val (.int p3), .val (.int (3 : Int32)), .val (.int xat), .val (.int (1 : Int32)), .val (.int (1 : Int32)), .val (.ref rb), .val (.ref rw), .val (.long (1 : Int64)), .second, .val (.long vn1), .second, .val (.long (1 : Int64)), .second, .val (.double d), .second, .val (.long vn1), .second] [(.int (1 : Int32))]))
          exact own_retZ X102 hx Bd.notSynchronized Bd.returns (Or.inr rfl) (hb hby at_320) (by decide) (by decide) ⟨rfl, N102⟩
        · show own_Go p e below _ (T79.setTop (mkF m 160 #[.val (.long p0), .second, .val (.long p1), .second, .val (.long p2), .second, .val (.int p3), .val (.int (3 : Int32)), .val (.int xat), .val (.int (1 : Int32)), .val (.int (2 : Int32)), .val (.ref rb), .val (.ref rw), .unset, .unset, .unset, .unset, .unset, .unset, .unset, .unset, .unset, .unset] [(.int (0 : Int32)), (.int (2 : Int32)), (.int (1 : Int32)), (.long p0)]))
          obtain ⟨_, _, ⟨T103, L103, k103, n103⟩, -, X103, ⟨Lc103, hQ103, l103, y103, z103⟩, st103⟩ := Jvm.LawKit.callS X79 hx (y := (⟨"com/example/thicket/thicket/PackedLevelGrownVolumePinLaw", "mode", "(ZII)I"⟩ : MethodName)) hown (mvT hZ (hw _ (List.mem_of_getElem? (i := 11) rfl))) (mvT hZ (hw _ (List.mem_of_getElem? (i := 12) rfl))) (mvT hZ (hw _ (List.mem_of_getElem? (i := 13) rfl))) (mvT hZ (hw _ (List.mem_of_getElem? (i := 14) rfl))) (by decide) (backOf (W := 2) (own_mode l Z a0 hw [] (1 : Int32) (2 : Int32) (0 : Int32) h79 n0 zz80 ) hZ (hw _ (List.mem_of_getElem? (i := 14) rfl)) (hw _ (List.mem_of_getElem? (i := 13) rfl)) (by decide) (by decide)) (g := (mkF m 160 #[.val (.long p0), .second, .val (.long p1), .second, .val (.long p2), .second, .val (.int p3), .val (.int (3 : Int32)), .val (.int xat), .val (.int (1 : Int32)), .val (.int (2 : Int32)), .val (.ref rb), .val (.ref rw), .unset, .unset, .unset, .unset, .unset, .unset, .unset, .unset, .unset, .unset] [(.int (0 : Int32)), (.int (2 : Int32)), (.int (1 : Int32)), (.long p0)])) rfl (by rw [hml]; rfl) (argsL := [(.int (1 : Int32)), (.int (2 : Int32)), (.int (0 : Int32))]) (rest := [(.long p0)]) (lenOf own_pd1 rfl) rfl (by show 2 * 0 + _ ≤ _; exact Nat.le_of_eq rfl) (hb hby at_160) (fun _ _ => ⟨rfl, e79, (by decide : 2 + 0 ≤ _), (by decide : 13 + 0 ≤ _)⟩)
          dsimp only [Pt.U, Pt.locs, Pt.cells, Pt.slots] at X103 l103 y103 z103 st103 hQ103
          subst l103 y103 z103
          obtain ⟨rfl, N103q, hh103⟩ := hQ103
          have N103 := Fr.app N22 N103q
          refine own_Go.st (fun _ kt => st103 _ kt) ?_
          show own_Go p e below _ (T103.setTop (mkF m 163 #[.val (.long p0), .second, .val (.long p1), .second, .val (.long p2), .second, .val (.int p3), .val (.int (3 : Int32)), .val (.int xat), .val (.int (1 : Int32)), .val (.int (2 : Int32)), .val (.ref rb), .val (.ref rw), .unset, .unset, .unset, .unset, .unset, .unset, .unset, .unset, .unset, .unset] [(.int (if (1 : Int32) = 0 then (0 : Int32) else if (0 : Int32) = (2 : Int32) then 1 else 2)), (.long p0)]))
          rw [show (if (1 : Int32) = 0 then (0 : Int32) else if (0 : Int32) = (2 : Int32) then 1 else 2) = (2 : Int32) from (by decide)]
          show own_Go p e below _ (T103.setTop (mkF m 163 #[.val (.long p0), .second, .val (.long p1), .second, .val (.long p2), .second, .val (.int p3), .val (.int (3 : Int32)), .val (.int xat), .val (.int (1 : Int32)), .val (.int (2 : Int32)), .val (.ref rb), .val (.ref rw), .unset, .unset, .unset, .unset, .unset, .unset, .unset, .unset, .unset, .unset] [(.int (2 : Int32)), (.long p0)]))
          refine own_Go.st (fun _ kt => XS.aload X103.here hx rfl (hb hby at_163) rfl rfl kt) ?_
          show own_Go p e below _ (T103.setTop (mkF m 165 #[.val (.long p0), .second, .val (.long p1), .second, .val (.long p2), .second, .val (.int p3), .val (.int (3 : Int32)), .val (.int xat), .val (.int (1 : Int32)), .val (.int (2 : Int32)), .val (.ref rb), .val (.ref rw), .unset, .unset, .unset, .unset, .unset, .unset, .unset, .unset, .unset, .unset] [(.ref rb), (.int (2 : Int32)), (.long p0)]))
          refine own_Go.st (fun _ kt => XS.iload X103.here hx rfl (hb hby at_165) rfl kt) ?_
          show own_Go p e below _ (T103.setTop (mkF m 167 #[.val (.long p0), .second, .val (.long p1), .second, .val (.long p2), .second, .val (.int p3), .val (.int (3 : Int32)), .val (.int xat), .val (.int (1 : Int32)), .val (.int (2 : Int32)), .val (.ref rb), .val (.ref rw), .unset, .unset, .unset, .unset, .unset, .unset, .unset, .unset, .unset, .unset] [(.int xat), (.ref rb), (.int (2 : Int32)), (.long p0)]))
          refine own_Go.st (fun _ kt => XS.iload X103.here hx rfl (hb hby at_167) rfl kt) ?_
          show own_Go p e below _ (T103.setTop (mkF m 169 #[.val (.long p0), .second, .val (.long p1), .second, .val (.long p2), .second, .val (.int p3), .val (.int (3 : Int32)), .val (.int xat), .val (.int (1 : Int32)), .val (.int (2 : Int32)), .val (.ref rb), .val (.ref rw), .unset, .unset, .unset, .unset, .unset, .unset, .unset, .unset, .unset, .unset] [(.int xat), (.int xat), (.ref rb), (.int (2 : Int32)), (.long p0)]))
          refine own_Go.st (fun _ kt => XS.iload X103.here hx rfl (hb hby at_169) rfl kt) ?_
          show own_Go p e below _ (T103.setTop (mkF m 171 #[.val (.long p0), .second, .val (.long p1), .second, .val (.long p2), .second, .val (.int p3), .val (.int (3 : Int32)), .val (.int xat), .val (.int (1 : Int32)), .val (.int (2 : Int32)), .val (.ref rb), .val (.ref rw), .unset, .unset, .unset, .unset, .unset, .unset, .unset, .unset, .unset, .unset] [(.int (3 : Int32)), (.int xat), (.int xat), (.ref rb), (.int (2 : Int32)), (.long p0)]))
          refine own_Go.st (fun _ kt => XS.iadd X103.here hx rfl (hb hby at_171) rfl kt) ?_
          show own_Go p e below _ (T103.setTop (mkF m 172 #[.val (.long p0), .second, .val (.long p1), .second, .val (.long p2), .second, .val (.int p3), .val (.int (3 : Int32)), .val (.int xat), .val (.int (1 : Int32)), .val (.int (2 : Int32)), .val (.ref rb), .val (.ref rw), .unset, .unset, .unset, .unset, .unset, .unset, .unset, .unset, .unset, .unset] [(.int (xat + (3 : Int32))), (.int xat), (.ref rb), (.int (2 : Int32)), (.long p0)]))
          refine own_Go.st (fun _ kt => XS.aload X103.here hx rfl (hb hby at_172) rfl rfl kt) ?_
          show own_Go p e below _ (T103.setTop (mkF m 174 #[.val (.long p0), .second, .val (.long p1), .second, .val (.long p2), .second, .val (.int p3), .val (.int (3 : Int32)), .val (.int xat), .val (.int (1 : Int32)), .val (.int (2 : Int32)), .val (.ref rb), .val (.ref rw), .unset, .unset, .unset, .unset, .unset, .unset, .unset, .unset, .unset, .unset] [(.ref rw), (.int (xat + (3 : Int32))), (.int xat), (.ref rb), (.int (2 : Int32)), (.long p0)]))
          refine own_Go.st (fun _ kt => XS.iconst X103.here hx rfl (hb hby at_174) kt) ?_
          show own_Go p e below _ (T103.setTop (mkF m 175 #[.val (.long p0), .second, .val (.long p1), .second, .val (.long p2), .second, .val (.int p3), .val (.int (3 : Int32)), .val (.int xat), .val (.int (1 : Int32)), .val (.int (2 : Int32)), .val (.ref rb), .val (.ref rw), .unset, .unset, .unset, .unset, .unset, .unset, .unset, .unset, .unset, .unset] [(.int (0 : Int32)), (.ref rw), (.int (xat + (3 : Int32))), (.int xat), (.ref rb), (.int (2 : Int32)), (.long p0)]))
          have f104 := (ab.ext E79)
          obtain ⟨_, _, ⟨T105, L105, k105, n105⟩, -, X105, ⟨Lc105, hQ105, l105, y105, z105⟩, st105⟩ := Jvm.LawKit.callS X103 hx (y := (⟨"com/example/thicket/thicket/PackedLevelGrownVolumePinLaw", "fill", "(JI[DII[DI)J"⟩ : MethodName)) hown (mvT hZ (hw _ (List.mem_of_getElem? (i := 15) rfl))) (mvT hZ (hw _ (List.mem_of_getElem? (i := 16) rfl))) (mvT hZ (hw _ (List.mem_of_getElem? (i := 13) rfl))) (mvT hZ (hw _ (List.mem_of_getElem? (i := 17) rfl))) (by decide) (backOf (W := 0) (own_fill l Z a0 hw [] p0 (2 : Int32) rb xat (xat + (3 : Int32)) rw (0 : Int32) ia (ia + 3) 0 3 fb fw h79 n0 zz80 f104 aw ne_rb_rw n0_rb n0_rw hat (own_addn hat (e := 3) (by decide) (by omega) (by decide)) (by decide) (by omega) (by omega) (by decide) (by decide)) hZ (hw _ (List.mem_of_getElem? (i := 17) rfl)) (hw _ (List.mem_of_getElem? (i := 13) rfl)) (by decide) (by decide)) (g := (mkF m 175 #[.val (.long p0), .second, .val (.long p1), .second, .val (.long p2), .second, .val (.int p3), .val (.int (3 : Int32)), .val (.int xat), .val (.int (1 : Int32)), .val (.int (2 : Int32)), .val (.ref rb), .val (.ref rw), .unset, .unset, .unset, .unset, .unset, .unset, .unset, .unset, .unset, .unset] [(.int (0 : Int32)), (.ref rw), (.int (xat + (3 : Int32))), (.int xat), (.ref rb), (.int (2 : Int32)), (.long p0)])) rfl (by rw [hml]; rfl) (argsL := [(.long p0), (.int (2 : Int32)), (.ref rb), (.int xat), (.int (xat + (3 : Int32))), (.ref rw), (.int (0 : Int32))]) (rest := []) (lenOf own_pd2 rfl) rfl (by show 2 * 0 + _ ≤ _; exact Nat.le_of_eq rfl) (hb hby at_175) (fun _ _ => ⟨rfl, hh103, (by decide : 2 + 0 ≤ _), (by decide : 13 + 0 ≤ _)⟩)
          dsimp only [Pt.U, Pt.locs, Pt.cells, Pt.slots] at X105 l105 y105 z105 st105 hQ105
          subst l105 y105 z105
          obtain ⟨vn0, x0, y0, z0, G0, rfl, N105q, ex105, e2105, e3105, ab105, aw105, KF105⟩ := hQ105
          have N105 := Fr.app N103 N105q
          refine own_Go.st (fun _ kt => st105 _ kt) ?_
          have zz106 : n0 ≤ Array.size T105.heap := Nat.le_trans zz80 KF105.1
          show own_Go p e below _ (T105.setTop (mkF m 178 #[.val (.long p0), .second, .val (.long p1), .second, .val (.long p2), .second, .val (.int p3), .val (.int (3 : Int32)), .val (.int xat), .val (.int (1 : Int32)), .val (.int (2 : Int32)), .val (.ref rb), .val (.ref rw), .unset, .unset, .unset, .unset, .unset, .unset, .unset, .unset, .unset, .unset] [(.long vn0)]))
          generalize hfb1 : (fun j => if j = (ia + 3) then Value.double y0 else if j = ia then Value.double x0 else fb j) = fb1 at ab105
          generalize hfw1 : (fun j => if j = 0 then Value.double z0 else fw j) = fw1 at aw105
          obtain ⟨rfl, rfl⟩ := e2105 rfl
          show own_Go p e below _ (T105.setTop (mkF m 178 #[.val (.long p0), .second, .val (.long p1), .second, .val (.long p2), .second, .val (.int p3), .val (.int (3 : Int32)), .val (.int xat), .val (.int (1 : Int32)), .val (.int (2 : Int32)), .val (.ref rb), .val (.ref rw), .unset, .unset, .unset, .unset, .unset, .unset, .unset, .unset, .unset, .unset] [(.long (1 : Int64))]))
          refine own_Go.st (fun _ kt => XS.lstore X105.here hx rfl (hb hby at_178) rfl (l' := #[.val (.long p0), .second, .val (.long p1), .second, .val (.long p2), .second, .val (.int p3), .val (.int (3 : Int32)), .val (.int xat), .val (.int (1 : Int32)), .val (.int (2 : Int32)), .val (.ref rb), .val (.ref rw), .val (.long (1 : Int64)), .second, .unset, .unset, .unset, .unset, .unset, .unset, .unset, .unset]) rfl kt) ?_
          show own_Go p e below _ (T105.setTop (mkF m 180 #[.val (.long p0), .second, .val (.long p1), .second, .val (.long p2), .second, .val (.int p3), .val (.int (3 : Int32)), .val (.int xat), .val (.int (1 : Int32)), .val (.int (2 : Int32)), .val (.ref rb), .val (.ref rw), .val (.long (1 : Int64)), .second, .unset, .unset, .unset, .unset, .unset, .unset, .unset, .unset] []))
          refine own_Go.st (fun _ kt => XS.iload X105.here hx rfl (hb hby at_180) rfl kt) ?_
          show own_Go p e below _ (T105.setTop (mkF m 182 #[.val (.long p0), .second, .val (.long p1), .second, .val (.long p2), .second, .val (.int p3), .val (.int (3 : Int32)), .val (.int xat), .val (.int (1 : Int32)), .val (.int (2 : Int32)), .val (.ref rb), .val (.ref rw), .val (.long (1 : Int64)), .second, .unset, .unset, .unset, .unset, .unset, .unset, .unset, .unset] [(.int (3 : Int32))]))
          refine own_Go.st (fun _ kt => XS.iconst X105.here hx rfl (hb hby at_182) kt) ?_
          show own_Go p e below _ (T105.setTop (mkF m 183 #[.val (.long p0), .second, .val (.long p1), .second, .val (.long p2), .second, .val (.int p3), .val (.int (3 : Int32)), .val (.int xat), .val (.int (1 : Int32)), .val (.int (2 : Int32)), .val (.ref rb), .val (.ref rw), .val (.long (1 : Int64)), .second, .unset, .unset, .unset, .unset, .unset, .unset, .unset, .unset] [(.int (1 : Int32)), (.int (3 : Int32))]))
          refine own_Go.st (fun _ kt => XS.icmpNo X105.here hx rfl (hb hby at_183) rfl (tlt (by decide)).2.2.2 kt) ?_
          show own_Go p e below _ (T105.setTop (mkF m 186 #[.val (.long p0), .second, .val (.long p1), .second, .val (.long p2), .second, .val (.int p3), .val (.int (3 : Int32)), .val (.int xat), .val (.int (1 : Int32)), .val (.int (2 : Int32)), .val (.ref rb), .val (.ref rw), .val (.long (1 : Int64)), .second, .unset, .unset, .unset, .unset, .unset, .unset, .unset, .unset] []))
          refine own_Go.st (fun _ kt => XS.lloadN X105.here hx rfl (hb hby at_186) rfl kt) ?_
          show own_Go p e below _ (T105.setTop (mkF m 187 #[.val (.long p0), .second, .val (.long p1), .second, .val (.long p2), .second, .val (.int p3), .val (.int (3 : Int32)), .val (.int xat), .val (.int (1 : Int32)), .val (.int (2 : Int32)), .val (.ref rb), .val (.ref rw), .val (.long (1 : Int64)), .second, .unset, .unset, .unset, .unset, .unset, .unset, .unset, .unset] [(.long p1)]))
          refine own_Go.st (fun _ kt => XS.iload X105.here hx rfl (hb hby at_187) rfl kt) ?_
          show own_Go p e below _ (T105.setTop (mkF m 189 #[.val (.long p0), .second, .val (.long p1), .second, .val (.long p2), .second, .val (.int p3), .val (.int (3 : Int32)), .val (.int xat), .val (.int (1 : Int32)), .val (.int (2 : Int32)), .val (.ref rb), .val (.ref rw), .val (.long (1 : Int64)), .second, .unset, .unset, .unset, .unset, .unset, .unset, .unset, .unset] [(.int (1 : Int32)), (.long p1)]))
          refine own_Go.st (fun _ kt => XS.iload X105.here hx rfl (hb hby at_189) rfl kt) ?_
          show own_Go p e below _ (T105.setTop (mkF m 191 #[.val (.long p0), .second, .val (.long p1), .second, .val (.long p2), .second, .val (.int p3), .val (.int (3 : Int32)), .val (.int xat), .val (.int (1 : Int32)), .val (.int (2 : Int32)), .val (.ref rb), .val (.ref rw), .val (.long (1 : Int64)), .second, .unset, .unset, .unset, .unset, .unset, .unset, .unset, .unset] [(.int (2 : Int32)), (.int (1 : Int32)), (.long p1)]))
          refine own_Go.st (fun _ kt => XS.iconst X105.here hx rfl (hb hby at_191) kt) ?_
          show own_Go p e below _ (T105.setTop (mkF m 192 #[.val (.long p0), .second, .val (.long p1), .second, .val (.long p2), .second, .val (.int p3), .val (.int (3 : Int32)), .val (.int xat), .val (.int (1 : Int32)), .val (.int (2 : Int32)), .val (.ref rb), .val (.ref rw), .val (.long (1 : Int64)), .second, .unset, .unset, .unset, .unset, .unset, .unset, .unset, .unset] [(.int (1 : Int32)), (.int (2 : Int32)), (.int (1 : Int32)), (.long p1)]))
          obtain ⟨_, _, ⟨T107, L107, k107, n107⟩, -, X107, ⟨Lc107, hQ107, l107, y107, z107⟩, st107⟩ := Jvm.LawKit.callS X105 hx (y := (⟨"com/example/thicket/thicket/PackedLevelGrownVolumePinLaw", "mode", "(ZII)I"⟩ : MethodName)) hown (mvT hZ (hw _ (List.mem_of_getElem? (i := 11) rfl))) (mvT hZ (hw _ (List.mem_of_getElem? (i := 12) rfl))) (mvT hZ (hw _ (List.mem_of_getElem? (i := 13) rfl))) (mvT hZ (hw _ (List.mem_of_getElem? (i := 14) rfl))) (by decide) (backOf (W := 2) (own_mode l Z a0 hw [] (1 : Int32) (2 : Int32) (1 : Int32) T105.heap n0 zz106 ) hZ (hw _ (List.mem_of_getElem? (i := 14) rfl)) (hw _ (List.mem_of_getElem? (i := 13) rfl)) (by decide) (by decide)) (g := (mkF m 192 #[.val (.long p0), .second, .val (.long p1), .second, .val (.long p2), .second, .val (.int p3), .val (.int (3 : Int32)), .val (.int xat), .val (.int (1 : Int32)), .val (.int (2 : Int32)), .val (.ref rb), .val (.ref rw), .val (.long (1 : Int64)), .second, .unset, .unset, .unset, .unset, .unset, .unset, .unset, .unset] [(.int (1 : Int32)), (.int (2 : Int32)), (.int (1 : Int32)), (.long p1)])) rfl (by rw [hml]; rfl) (argsL := [(.int (1 : Int32)), (.int (2 : Int32)), (.int (1 : Int32))]) (rest := [(.long p1)]) (lenOf own_pd1 rfl) rfl (by show 2 * 0 + _ ≤ _; exact Nat.le_of_eq rfl) (hb hby at_192) (fun _ _ => ⟨rfl, rfl, (by decide : 2 + 0 ≤ _), (by decide : 13 + 0 ≤ _)⟩)
          dsimp only [Pt.U, Pt.locs, Pt.cells, Pt.slots] at X107 l107 y107 z107 st107 hQ107
          subst l107 y107 z107
          obtain ⟨rfl, N107q, hh107⟩ := hQ107
          have N107 := Fr.app N105 N107q
          refine own_Go.st (fun _ kt => st107 _ kt) ?_
          show own_Go p e below _ (T107.setTop (mkF m 195 #[.val (.long p0), .second, .val (.long p1), .second, .val (.long p2), .second, .val (.int p3), .val (.int (3 : Int32)), .val (.int xat), .val (.int (1 : Int32)), .val (.int (2 : Int32)), .val (.ref rb), .val (.ref rw), .val (.long (1 : Int64)), .second, .unset, .unset, .unset, .unset, .unset, .unset, .unset, .unset] [(.int (if (1 : Int32) = 0 then (0 : Int32) else if (1 : Int32) = (2 : Int32) then 1 else 2)), (.long p1)]))
          rw [show (if (1 : Int32) = 0 then (0 : Int32) else if (1 : Int32) = (2 : Int32) then 1 else 2) = (2 : Int32) from (by decide)]
          show own_Go p e below _ (T107.setTop (mkF m 195 #[.val (.long p0), .second, .val (.long p1), .second, .val (.long p2), .second, .val (.int p3), .val (.int (3 : Int32)), .val (.int xat), .val (.int (1 : Int32)), .val (.int (2 : Int32)), .val (.ref rb), .val (.ref rw), .val (.long (1 : Int64)), .second, .unset, .unset, .unset, .unset, .unset, .unset, .unset, .unset] [(.int (2 : Int32)), (.long p1)]))
          refine own_Go.st (fun _ kt => XS.aload X107.here hx rfl (hb hby at_195) rfl rfl kt) ?_
          show own_Go p e below _ (T107.setTop (mkF m 197 #[.val (.long p0), .second, .val (.long p1), .second, .val (.long p2), .second, .val (.int p3), .val (.int (3 : Int32)), .val (.int xat), .val (.int (1 : Int32)), .val (.int (2 : Int32)), .val (.ref rb), .val (.ref rw), .val (.long (1 : Int64)), .second, .unset, .unset, .unset, .unset, .unset, .unset, .unset, .unset] [(.ref rb), (.int (2 : Int32)), (.long p1)]))
          refine own_Go.st (fun _ kt => XS.iload X107.here hx rfl (hb hby at_197) rfl kt) ?_
          show own_Go p e below _ (T107.setTop (mkF m 199 #[.val (.long p0), .second, .val (.long p1), .second, .val (.long p2), .second, .val (.int p3), .val (.int (3 : Int32)), .val (.int xat), .val (.int (1 : Int32)), .val (.int (2 : Int32)), .val (.ref rb), .val (.ref rw), .val (.long (1 : Int64)), .second, .unset, .unset, .unset, .unset, .unset, .unset, .unset, .unset] [(.int xat), (.ref rb), (.int (2 : Int32)), (.long p1)]))
          refine own_Go.st (fun _ kt => XS.iconst X107.here hx rfl (hb hby at_199) kt) ?_
          show own_Go p e below _ (T107.setTop (mkF m 200 #[.val (.long p0), .second, .val (.long p1), .second, .val (.long p2), .second, .val (.int p3), .val (.int (3 : Int32)), .val (.int xat), .val (.int (1 : Int32)), .val (.int (2 : Int32)), .val (.ref rb), .val (.ref rw), .val (.long (1 : Int64)), .second, .unset, .unset, .unset, .unset, .unset, .unset, .unset, .unset] [(.int (1 : Int32)), (.int xat), (.ref rb), (.int (2 : Int32)), (.long p1)]))
          refine own_Go.st (fun _ kt => XS.iadd X107.here hx rfl (hb hby at_200) rfl kt) ?_
          show own_Go p e below _ (T107.setTop (mkF m 201 #[.val (.long p0), .second, .val (.long p1), .second, .val (.long p2), .second, .val (.int p3), .val (.int (3 : Int32)), .val (.int xat), .val (.int (1 : Int32)), .val (.int (2 : Int32)), .val (.ref rb), .val (.ref rw), .val (.long (1 : Int64)), .second, .unset, .unset, .unset, .unset, .unset, .unset, .unset, .unset] [(.int (xat + (1 : Int32))), (.ref rb), (.int (2 : Int32)), (.long p1)]))
          refine own_Go.st (fun _ kt => XS.iload X107.here hx rfl (hb hby at_201) rfl kt) ?_
          show own_Go p e below _ (T107.setTop (mkF m 203 #[.val (.long p0), .second, .val (.long p1), .second, .val (.long p2), .second, .val (.int p3), .val (.int (3 : Int32)), .val (.int xat), .val (.int (1 : Int32)), .val (.int (2 : Int32)), .val (.ref rb), .val (.ref rw), .val (.long (1 : Int64)), .second, .unset, .unset, .unset, .unset, .unset, .unset, .unset, .unset] [(.int xat), (.int (xat + (1 : Int32))), (.ref rb), (.int (2 : Int32)), (.long p1)]))
          refine own_Go.st (fun _ kt => XS.iload X107.here hx rfl (hb hby at_203) rfl kt) ?_
          show own_Go p e below _ (T107.setTop (mkF m 205 #[.val (.long p0), .second, .val (.long p1), .second, .val (.long p2), .second, .val (.int p3), .val (.int (3 : Int32)), .val (.int xat), .val (.int (1 : Int32)), .val (.int (2 : Int32)), .val (.ref rb), .val (.ref rw), .val (.long (1 : Int64)), .second, .unset, .unset, .unset, .unset, .unset, .unset, .unset, .unset] [(.int (3 : Int32)), (.int xat), (.int (xat + (1 : Int32))), (.ref rb), (.int (2 : Int32)), (.long p1)]))
          refine own_Go.st (fun _ kt => XS.iadd X107.here hx rfl (hb hby at_205) rfl kt) ?_
          show own_Go p e below _ (T107.setTop (mkF m 206 #[.val (.long p0), .second, .val (.long p1), .second, .val (.long p2), .second, .val (.int p3), .val (.int (3 : Int32)), .val (.int xat), .val (.int (1 : Int32)), .val (.int (2 : Int32)), .val (.ref rb), .val (.ref rw), .val (.long (1 : Int64)), .second, .unset, .unset, .unset, .unset, .unset, .unset, .unset, .unset] [(.int (xat + (3 : Int32))), (.int (xat + (1 : Int32))), (.ref rb), (.int (2 : Int32)), (.long p1)]))
          refine own_Go.st (fun _ kt => XS.iconst X107.here hx rfl (hb hby at_206) kt) ?_
          show own_Go p e below _ (T107.setTop (mkF m 207 #[.val (.long p0), .second, .val (.long p1), .second, .val (.long p2), .second, .val (.int p3), .val (.int (3 : Int32)), .val (.int xat), .val (.int (1 : Int32)), .val (.int (2 : Int32)), .val (.ref rb), .val (.ref rw), .val (.long (1 : Int64)), .second, .unset, .unset, .unset, .unset, .unset, .unset, .unset, .unset] [(.int (1 : Int32)), (.int (xat + (3 : Int32))), (.int (xat + (1 : Int32))), (.ref rb), (.int (2 : Int32)), (.long p1)]))
          refine own_Go.st (fun _ kt => XS.iadd X107.here hx rfl (hb hby at_207) rfl kt) ?_
          show own_Go p e below _ (T107.setTop (mkF m 208 #[.val (.long p0), .second, .val (.long p1), .second, .val (.long p2), .second, .val (.int p3), .val (.int (3 : Int32)), .val (.int xat), .val (.int (1 : Int32)), .val (.int (2 : Int32)), .val (.ref rb), .val (.ref rw), .val (.long (1 : Int64)), .second, .unset, .unset, .unset, .unset, .unset, .unset, .unset, .unset] [(.int ((xat + (3 : Int32)) + (1 : Int32))), (.int (xat + (1 : Int32))), (.ref rb), (.int (2 : Int32)), (.long p1)]))
          refine own_Go.st (fun _ kt => XS.aload X107.here hx rfl (hb hby at_208) rfl rfl kt) ?_
          show own_Go p e below _ (T107.setTop (mkF m 210 #[.val (.long p0), .second, .val (.long p1), .second, .val (.long p2), .second, .val (.int p3), .val (.int (3 : Int32)), .val (.int xat), .val (.int (1 : Int32)), .val (.int (2 : Int32)), .val (.ref rb), .val (.ref rw), .val (.long (1 : Int64)), .second, .unset, .unset, .unset, .unset, .unset, .unset, .unset, .unset] [(.ref rw), (.int ((xat + (3 : Int32)) + (1 : Int32))), (.int (xat + (1 : Int32))), (.ref rb), (.int (2 : Int32)), (.long p1)]))
          refine own_Go.st (fun _ kt => XS.iconst X107.here hx rfl (hb hby at_210) kt) ?_
          show own_Go p e below _ (T107.setTop (mkF m 211 #[.val (.long p0), .second, .val (.long p1), .second, .val (.long p2), .second, .val (.int p3), .val (.int (3 : Int32)), .val (.int xat), .val (.int (1 : Int32)), .val (.int (2 : Int32)), .val (.ref rb), .val (.ref rw), .val (.long (1 : Int64)), .second, .unset, .unset, .unset, .unset, .unset, .unset, .unset, .unset] [(.int (1 : Int32)), (.ref rw), (.int ((xat + (3 : Int32)) + (1 : Int32))), (.int (xat + (1 : Int32))), (.ref rb), (.int (2 : Int32)), (.long p1)]))
          obtain ⟨_, _, ⟨T108, L108, k108, n108⟩, -, X108, ⟨Lc108, hQ108, l108, y108, z108⟩, st108⟩ := Jvm.LawKit.callS X107 hx (y := (⟨"com/example/thicket/thicket/PackedLevelGrownVolumePinLaw", "fill", "(JI[DII[DI)J"⟩ : MethodName)) hown (mvT hZ (hw _ (List.mem_of_getElem? (i := 15) rfl))) (mvT hZ (hw _ (List.mem_of_getElem? (i := 16) rfl))) (mvT hZ (hw _ (List.mem_of_getElem? (i := 13) rfl))) (mvT hZ (hw _ (List.mem_of_getElem? (i := 17) rfl))) (by decide) (backOf (W := 0) (own_fill l Z a0 hw [] p1 (2 : Int32) rb (xat + (1 : Int32)) ((xat + (3 : Int32)) + (1 : Int32)) rw (1 : Int32) (ia + 1) (ia + 3 + 1) 1 3 fb1 fw1 T105.heap n0 zz106 ab105 aw105 ne_rb_rw n0_rb n0_rw (own_addn hat (e := 1) (by decide) (by omega) (by decide)) (own_addn (own_addn hat (e := 3) (by decide) (by omega) (by decide)) (e := 1) (by decide) (by omega) (by decide)) (by decide) (by omega) (by omega) (by decide) (by decide)) hZ (hw _ (List.mem_of_getElem? (i := 17) rfl)) (hw _ (List.mem_of_getElem? (i := 13) rfl)) (by decide) (by decide)) (g := (mkF m 211 #[.val (.long p0), .second, .val (.long p1), .second, .val (.long p2), .second, .val (.int p3), .val (.int (3 : Int32)), .val (.int xat), .val (.int (1 : Int32)), .val (.int (2 : Int32)), .val (.ref rb), .val (.ref rw), .val (.long (1 : Int64)), .second, .unset, .unset, .unset, .unset, .unset, .unset, .unset, .unset] [(.int (1 : Int32)), (.ref rw), (.int ((xat + (3 : Int32)) + (1 : Int32))), (.int (xat + (1 : Int32))), (.ref rb), (.int (2 : Int32)), (.long p1)])) rfl (by rw [hml]; rfl) (argsL := [(.long p1), (.int (2 : Int32)), (.ref rb), (.int (xat + (1 : Int32))), (.int ((xat + (3 : Int32)) + (1 : Int32))), (.ref rw), (.int (1 : Int32))]) (rest := []) (lenOf own_pd2 rfl) rfl (by show 2 * 0 + _ ≤ _; exact Nat.le_of_eq rfl) (hb hby at_211) (fun _ _ => ⟨rfl, hh107, (by decide : 2 + 0 ≤ _), (by decide : 13 + 0 ≤ _)⟩)
          dsimp only [Pt.U, Pt.locs, Pt.cells, Pt.slots] at X108 l108 y108 z108 st108 hQ108
          subst l108 y108 z108
          obtain ⟨vn1, x1, y1, z1, G1, rfl, N108q, ex108, e2108, e3108, ab108, aw108, KF108⟩ := hQ108
          have N108 := Fr.app N107 N108q
          refine own_Go.st (fun _ kt => st108 _ kt) ?_
          have zz109 : n0 ≤ Array.size T108.heap := Nat.le_trans zz106 KF108.1
          show own_Go p e below _ (T108.setTop (mkF m 214 #[.val (.long p0), .second, .val (.long p1), .second, .val (.long p2), .second, .val (.int p3), .val (.int (3 : Int32)), .val (.int xat), .val (.int (1 : Int32)), .val (.int (2 : Int32)), .val (.ref rb), .val (.ref rw), .val (.long (1 : Int64)), .second, .unset, .unset, .unset, .unset, .unset, .unset, .unset, .unset] [(.long vn1)]))
          generalize hfb2 : (fun j => if j = (ia + 3 + 1) then Value.double y1 else if j = (ia + 1) then Value.double x1 else fb1 j) = fb2 at ab108
          generalize hfw2 : (fun j => if j = 1 then Value.double z1 else fw1 j) = fw2 at aw108
          obtain ⟨rfl, rfl⟩ := e2108 rfl
          show own_Go p e below _ (T108.setTop (mkF m 214 #[.val (.long p0), .second, .val (.long p1), .second, .val (.long p2), .second, .val (.int p3), .val (.int (3 : Int32)), .val (.int xat), .val (.int (1 : Int32)), .val (.int (2 : Int32)), .val (.ref rb), .val (.ref rw), .val (.long (1 : Int64)), .second, .unset, .unset, .unset, .unset, .unset, .unset, .unset, .unset] [(.long (1 : Int64))]))
          refine own_Go.st (fun _ kt => XS.goto X108.here hx rfl (pc0 := 214) (pc' := 218) rfl (hb hby at_214) (by decide) (by decide) kt) ?_
          show own_Go p e below _ (T108.setTop (mkF m 218 #[.val (.long p0), .second, .val (.long p1), .second, .val (.long p2), .second, .val (.int p3), .val (.int (3 : Int32)), .val (.int xat), .val (.int (1 : Int32)), .val (.int (2 : Int32)), .val (.ref rb), .val (.ref rw), .val (.long (1 : Int64)), .second, .unset, .unset, .unset, .unset, .unset, .unset, .unset, .unset] [(.long (1 : Int64))]))
          refine own_Go.st (fun _ kt => XS.lstore X108.here hx rfl (hb hby at_218) rfl (l' := #[.val (.long p0), .second, .val (.long p1), .second, .val (.long p2), .second, .val (.int p3), .val (.int (3 : Int32)), .val (.int xat), .val (.int (1 : Int32)), .val (.int (2 : Int32)), .val (.ref rb), .val (.ref rw), .val (.long (1 : Int64)), .second, .val (.long (1 : Int64)), .second, .unset, .unset, .unset, .unset, .unset, .unset]) rfl kt) ?_
          show own_Go p e below _ (T108.setTop (mkF m 220 #[.val (.long p0), .second, .val (.long p1), .second, .val (.long p2), .second, .val (.int p3), .val (.int (3 : Int32)), .val (.int xat), .val (.int (1 : Int32)), .val (.int (2 : Int32)), .val (.ref rb), .val (.ref rw), .val (.long (1 : Int64)), .second, .val (.long (1 : Int64)), .second, .unset, .unset, .unset, .unset, .unset, .unset] []))
          refine own_Go.st (fun _ kt => XS.iload X108.here hx rfl (hb hby at_220) rfl kt) ?_
          show own_Go p e below _ (T108.setTop (mkF m 222 #[.val (.long p0), .second, .val (.long p1), .second, .val (.long p2), .second, .val (.int p3), .val (.int (3 : Int32)), .val (.int xat), .val (.int (1 : Int32)), .val (.int (2 : Int32)), .val (.ref rb), .val (.ref rw), .val (.long (1 : Int64)), .second, .val (.long (1 : Int64)), .second, .unset, .unset, .unset, .unset, .unset, .unset] [(.int (3 : Int32))]))
          refine own_Go.st (fun _ kt => XS.iconst X108.here hx rfl (hb hby at_222) kt) ?_
          show own_Go p e below _ (T108.setTop (mkF m 223 #[.val (.long p0), .second, .val (.long p1), .second, .val (.long p2), .second, .val (.int p3), .val (.int (3 : Int32)), .val (.int xat), .val (.int (1 : Int32)), .val (.int (2 : Int32)), .val (.ref rb), .val (.ref rw), .val (.long (1 : Int64)), .second, .val (.long (1 : Int64)), .second, .unset, .unset, .unset, .unset, .unset, .unset] [(.int (2 : Int32)), (.int (3 : Int32))]))
          refine own_Go.st (fun _ kt => XS.icmpNo X108.here hx rfl (hb hby at_223) rfl (tlt (by decide)).2.2.2 kt) ?_
          show own_Go p e below _ (T108.setTop (mkF m 226 #[.val (.long p0), .second, .val (.long p1), .second, .val (.long p2), .second, .val (.int p3), .val (.int (3 : Int32)), .val (.int xat), .val (.int (1 : Int32)), .val (.int (2 : Int32)), .val (.ref rb), .val (.ref rw), .val (.long (1 : Int64)), .second, .val (.long (1 : Int64)), .second, .unset, .unset, .unset, .unset, .unset, .unset] []))
          refine own_Go.st (fun _ kt => XS.lload X108.here hx rfl (hb hby at_226) rfl kt) ?_
          show own_Go p e below _ (T108.setTop (mkF m 228 #[.val (.long p0), .second, .val (.long p1), .second, .val (.long p2), .second, .val (.int p3), .val (.int (3 : Int32)), .val (.int xat), .val (.int (1 : Int32)), .val (.int (2 : Int32)), .val (.ref rb), .val (.ref rw), .val (.long (1 : Int64)), .second, .val (.long (1 : Int64)), .second, .unset, .unset, .unset, .unset, .unset, .unset] [(.long p2)]))
          refine own_Go.st (fun _ kt => XS.iload X108.here hx rfl (hb hby at_228) rfl kt) ?_
          show own_Go p e below _ (T108.setTop (mkF m 230 #[.val (.long p0), .second, .val (.long p1), .second, .val (.long p2), .second, .val (.int p3), .val (.int (3 : Int32)), .val (.int xat), .val (.int (1 : Int32)), .val (.int (2 : Int32)), .val (.ref rb), .val (.ref rw), .val (.long (1 : Int64)), .second, .val (.long (1 : Int64)), .second, .unset, .unset, .unset, .unset, .unset, .unset] [(.int (1 : Int32)), (.long p2)]))
          refine own_Go.st (fun _ kt => XS.iload X108.here hx rfl (hb hby at_230) rfl kt) ?_
          show own_Go p e below _ (T108.setTop (mkF m 232 #[.val (.long p0), .second, .val (.long p1), .second, .val (.long p2), .second, .val (.int p3), .val (.int (3 : Int32)), .val (.int xat), .val (.int (1 : Int32)), .val (.int (2 : Int32)), .val (.ref rb), .val (.ref rw), .val (.long (1 : Int64)), .second, .val (.long (1 : Int64)), .second, .unset, .unset, .unset, .unset, .unset, .unset] [(.int (2 : Int32)), (.int (1 : Int32)), (.long p2)]))
          refine own_Go.st (fun _ kt => XS.iconst X108.here hx rfl (hb hby at_232) kt) ?_
          show own_Go p e below _ (T108.setTop (mkF m 233 #[.val (.long p0), .second, .val (.long p1), .second, .val (.long p2), .second, .val (.int p3), .val (.int (3 : Int32)), .val (.int xat), .val (.int (1 : Int32)), .val (.int (2 : Int32)), .val (.ref rb), .val (.ref rw), .val (.long (1 : Int64)), .second, .val (.long (1 : Int64)), .second, .unset, .unset, .unset, .unset, .unset, .unset] [(.int (2 : Int32)), (.int (2 : Int32)), (.int (1 : Int32)), (.long p2)]))
          obtain ⟨_, _, ⟨T110, L110, k110, n110⟩, -, X110, ⟨Lc110, hQ110, l110, y110, z110⟩, st110⟩ := Jvm.LawKit.callS X108 hx (y := (⟨"com/example/thicket/thicket/PackedLevelGrownVolumePinLaw", "mode", "(ZII)I"⟩ : MethodName)) hown (mvT hZ (hw _ (List.mem_of_getElem? (i := 11) rfl))) (mvT hZ (hw _ (List.mem_of_getElem? (i := 12) rfl))) (mvT hZ (hw _ (List.mem_of_getElem? (i := 13) rfl))) (mvT hZ (hw _ (List.mem_of_getElem? (i := 14) rfl))) (by decide) (backOf (W := 2) (own_mode l Z a0 hw [] (1 : Int32) (2 : Int32) (2 : Int32) T108.heap n0 zz109 ) hZ (hw _ (List.mem_of_getElem? (i := 14) rfl)) (hw _ (List.mem_of_getElem? (i := 13) rfl)) (by decide) (by decide)) (g := (mkF m 233 #[.val (.long p0), .second, .val (.long p1), .second, .val (.long p2), .second, .val (.int p3), .val (.int (3 : Int32)), .val (.int xat), .val (.int (1 : Int32)), .val (.int (2 : Int32)), .val (.ref rb), .val (.ref rw), .val (.long (1 : Int64)), .second, .val (.long (1 : Int64)), .second, .unset, .unset, .unset, .unset, .unset, .unset] [(.int (2 : Int32)), (.int (2 : Int32)), (.int (1 : Int32)), (.long p2)])) rfl (by rw [hml]; rfl) (argsL := [(.int (1 : Int32)), (.int (2 : Int32)), (.int (2 : Int32))]) (rest := [(.long p2)]) (lenOf own_pd1 rfl) rfl (by show 2 * 0 + _ ≤ _; exact Nat.le_of_eq rfl) (hb hby at_233) (fun _ _ => ⟨rfl, rfl, (by decide : 2 + 0 ≤ _), (by decide : 13 + 0 ≤ _)⟩)
          dsimp only [Pt.U, Pt.locs, Pt.cells, Pt.slots] at X110 l110 y110 z110 st110 hQ110
          subst l110 y110 z110
          obtain ⟨rfl, N110q, hh110⟩ := hQ110
          have N110 := Fr.app N108 N110q
          refine own_Go.st (fun _ kt => st110 _ kt) ?_
          show own_Go p e below _ (T110.setTop (mkF m 236 #[.val (.long p0), .second, .val (.long p1), .second, .val (.long p2), .second, .val (.int p3), .val (.int (3 : Int32)), .val (.int xat), .val (.int (1 : Int32)), .val (.int (2 : Int32)), .val (.ref rb), .val (.ref rw), .val (.long (1 : Int64)), .second, .val (.long (1 : Int64)), .second, .unset, .unset, .unset, .unset, .unset, .unset] [(.int (if (1 : Int32) = 0 then (0 : Int32) else if (2 : Int32) = (2 : Int32) then 1 else 2)), (.long p2)]))
          rw [show (if (1 : Int32) = 0 then (0 : Int32) else if (2 : Int32) = (2 : Int32) then 1 else 2) = (1 : Int32) from (by decide)]
          show own_Go p e below _ (T110.setTop (mkF m 236 #[.val (.long p0), .second, .val (.long p1), .second, .val (.long p2), .second, .val (.int p3), .val (.int (3 : Int32)), .val (.int xat), .val (.int (1 : Int32)), .val (.int (2 : Int32)), .val (.ref rb), .val (.ref rw), .val (.long (1 : Int64)), .second, .val (.long (1 : Int64)), .second, .unset, .unset, .unset, .unset, .unset, .unset] [(.int (1 : Int32)), (.long p2)]))
          refine own_Go.st (fun _ kt => XS.aload X110.here hx rfl (hb hby at_236) rfl rfl kt) ?_
          show own_Go p e below _ (T110.setTop (mkF m 238 #[.val (.long p0), .second, .val (.long p1), .second, .val (.long p2), .second, .val (.int p3), .val (.int (3 : Int32)), .val (.int xat), .val (.int (1 : Int32)), .val (.int (2 : Int32)), .val (.ref rb), .val (.ref rw), .val (.long (1 : Int64)), .second, .val (.long (1 : Int64)), .second, .unset, .unset, .unset, .unset, .unset, .unset] [(.ref rb), (.int (1 : Int32)), (.long p2)]))
          refine own_Go.st (fun _ kt => XS.iload X110.here hx rfl (hb hby at_238) rfl kt) ?_
          show own_Go p e below _ (T110.setTop (mkF m 240 #[.val (.long p0), .second, .val (.long p1), .second, .val (.long p2), .second, .val (.int p3), .val (.int (3 : Int32)), .val (.int xat), .val (.int (1 : Int32)), .val (.int (2 : Int32)), .val (.ref rb), .val (.ref rw), .val (.long (1 : Int64)), .second, .val (.long (1 : Int64)), .second, .unset, .unset, .unset, .unset, .unset, .unset] [(.int xat), (.ref rb), (.int (1 : Int32)), (.long p2)]))
          refine own_Go.st (fun _ kt => XS.iconst X110.here hx rfl (hb hby at_240) kt) ?_
          show own_Go p e below _ (T110.setTop (mkF m 241 #[.val (.long p0), .second, .val (.long p1), .second, .val (.long p2), .second, .val (.int p3), .val (.int (3 : Int32)), .val (.int xat), .val (.int (1 : Int32)), .val (.int (2 : Int32)), .val (.ref rb), .val (.ref rw), .val (.long (1 : Int64)), .second, .val (.long (1 : Int64)), .second, .unset, .unset, .unset, .unset, .unset, .unset] [(.int (2 : Int32)), (.int xat), (.ref rb), (.int (1 : Int32)), (.long p2)]))
          refine own_Go.st (fun _ kt => XS.iadd X110.here hx rfl (hb hby at_241) rfl kt) ?_
          show own_Go p e below _ (T110.setTop (mkF m 242 #[.val (.long p0), .second, .val (.long p1), .second, .val (.long p2), .second, .val (.int p3), .val (.int (3 : Int32)), .val (.int xat), .val (.int (1 : Int32)), .val (.int (2 : Int32)), .val (.ref rb), .val (.ref rw), .val (.long (1 : Int64)), .second, .val (.long (1 : Int64)), .second, .unset, .unset, .unset, .unset, .unset, .unset] [(.int (xat + (2 : Int32))), (.ref rb), (.int (1 : Int32)), (.long p2)]))
          refine own_Go.st (fun _ kt => XS.iload X110.here hx rfl (hb hby at_242) rfl kt) ?_
          show own_Go p e below _ (T110.setTop (mkF m 244 #[.val (.long p0), .second, .val (.long p1), .second, .val (.long p2), .second, .val (.int p3), .val (.int (3 : Int32)), .val (.int xat), .val (.int (1 : Int32)), .val (.int (2 : Int32)), .val (.ref rb), .val (.ref rw), .val (.long (1 : Int64)), .second, .val (.long (1 : Int64)), .second, .unset, .unset, .unset, .unset, .unset, .unset] [(.int xat), (.int (xat + (2 : Int32))), (.ref rb), (.int (1 : Int32)), (.long p2)]))
          refine own_Go.st (fun _ kt => XS.iload X110.here hx rfl (hb hby at_244) rfl kt) ?_
          show own_Go p e below _ (T110.setTop (mkF m 246 #[.val (.long p0), .second, .val (.long p1), .second, .val (.long p2), .second, .val (.int p3), .val (.int (3 : Int32)), .val (.int xat), .val (.int (1 : Int32)), .val (.int (2 : Int32)), .val (.ref rb), .val (.ref rw), .val (.long (1 : Int64)), .second, .val (.long (1 : Int64)), .second, .unset, .unset, .unset, .unset, .unset, .unset] [(.int (3 : Int32)), (.int xat), (.int (xat + (2 : Int32))), (.ref rb), (.int (1 : Int32)), (.long p2)]))
          refine own_Go.st (fun _ kt => XS.iadd X110.here hx rfl (hb hby at_246) rfl kt) ?_
          show own_Go p e below _ (T110.setTop (mkF m 247 #[.val (.long p0), .second, .val (.long p1), .second, .val (.long p2), .second, .val (.int p3), .val (.int (3 : Int32)), .val (.int xat), .val (.int (1 : Int32)), .val (.int (2 : Int32)), .val (.ref rb), .val (.ref rw), .val (.long (1 : Int64)), .second, .val (.long (1 : Int64)), .second, .unset, .unset, .unset, .unset, .unset, .unset] [(.int (xat + (3 : Int32))), (.int (xat + (2 : Int32))), (.ref rb), (.int (1 : Int32)), (.long p2)]))
          refine own_Go.st (fun _ kt => XS.iconst X110.here hx rfl (hb hby at_247) kt) ?_
          show own_Go p e below _ (T110.setTop (mkF m 248 #[.val (.long p0), .second, .val (.long p1), .second, .val (.long p2), .second, .val (.int p3), .val (.int (3 : Int32)), .val (.int xat), .val (.int (1 : Int32)), .val (.int (2 : Int32)), .val (.ref rb), .val (.ref rw), .val (.long (1 : Int64)), .second, .val (.long (1 : Int64)), .second, .unset, .unset, .unset, .unset, .unset, .unset] [(.int (2 : Int32)), (.int (xat + (3 : Int32))), (.int (xat + (2 : Int32))), (.ref rb), (.int (1 : Int32)), (.long p2)]))
          refine own_Go.st (fun _ kt => XS.iadd X110.here hx rfl (hb hby at_248) rfl kt) ?_
          show own_Go p e below _ (T110.setTop (mkF m 249 #[.val (.long p0), .second, .val (.long p1), .second, .val (.long p2), .second, .val (.int p3), .val (.int (3 : Int32)), .val (.int xat), .val (.int (1 : Int32)), .val (.int (2 : Int32)), .val (.ref rb), .val (.ref rw), .val (.long (1 : Int64)), .second, .val (.long (1 : Int64)), .second, .unset, .unset, .unset, .unset, .unset, .unset] [(.int ((xat + (3 : Int32)) + (2 : Int32))), (.int (xat + (2 : Int32))), (.ref rb), (.int (1 : Int32)), (.long p2)]))
          refine own_Go.st (fun _ kt => XS.aload X110.here hx rfl (hb hby at_249) rfl rfl kt) ?_
          show own_Go p e below _ (T110.setTop (mkF m 251 #[.val (.long p0), .second, .val (.long p1), .second, .val (.long p2), .second, .val (.int p3), .val (.int (3 : Int32)), .val (.int xat), .val (.int (1 : Int32)), .val (.int (2 : Int32)), .val (.ref rb), .val (.ref rw), .val (.long (1 : Int64)), .second, .val (.long (1 : Int64)), .second, .unset, .unset, .unset, .unset, .unset, .unset] [(.ref rw), (.int ((xat + (3 : Int32)) + (2 : Int32))), (.int (xat + (2 : Int32))), (.ref rb), (.int (1 : Int32)), (.long p2)]))
          refine own_Go.st (fun _ kt => XS.iconst X110.here hx rfl (hb hby at_251) kt) ?_
          show own_Go p e below _ (T110.setTop (mkF m 252 #[.val (.long p0), .second, .val (.long p1), .second, .val (.long p2), .second, .val (.int p3), .val (.int (3 : Int32)), .val (.int xat), .val (.int (1 : Int32)), .val (.int (2 : Int32)), .val (.ref rb), .val (.ref rw), .val (.long (1 : Int64)), .second, .val (.long (1 : Int64)), .second, .unset, .unset, .unset, .unset, .unset, .unset] [(.int (2 : Int32)), (.ref rw), (.int ((xat + (3 : Int32)) + (2 : Int32))), (.int (xat + (2 : Int32))), (.ref rb), (.int (1 : Int32)), (.long p2)]))
          obtain ⟨_, _, ⟨T111, L111, k111, n111⟩, -, X111, ⟨Lc111, hQ111, l111, y111, z111⟩, st111⟩ := Jvm.LawKit.callS X110 hx (y := (⟨"com/example/thicket/thicket/PackedLevelGrownVolumePinLaw", "fill", "(JI[DII[DI)J"⟩ : MethodName)) hown (mvT hZ (hw _ (List.mem_of_getElem? (i := 15) rfl))) (mvT hZ (hw _ (List.mem_of_getElem? (i := 16) rfl))) (mvT hZ (hw _ (List.mem_of_getElem? (i := 13) rfl))) (mvT hZ (hw _ (List.mem_of_getElem? (i := 17) rfl))) (by decide) (backOf (W := 0) (own_fill l Z a0 hw [] p2 (1 : Int32) rb (xat + (2 : Int32)) ((xat + (3 : Int32)) + (2 : Int32)) rw (2 : Int32) (ia + 2) (ia + 3 + 2) 2 3 fb2 fw2 T108.heap n0 zz109 ab108 aw108 ne_rb_rw n0_rb n0_rw (own_addn hat (e := 2) (by decide) (by omega) (by decide)) (own_addn (own_addn hat (e := 3) (by decide) (by omega) (by decide)) (e := 2) (by decide) (by omega) (by decide)) (by decide) (by omega) (by omega) (by decide) (by decide)) hZ (hw _ (List.mem_of_getElem? (i := 17) rfl)) (hw _ (List.mem_of_getElem? (i := 13) rfl)) (by decide) (by decide)) (g := (mkF m 252 #[.val (.long p0), .second, .val (.long p1), .second, .val (.long p2), .second, .val (.int p3), .val (.int (3 : Int32)), .val (.int xat), .val (.int (1 : Int32)), .val (.int (2 : Int32)), .val (.ref rb), .val (.ref rw), .val (.long (1 : Int64)), .second, .val (.long (1 : Int64)), .second, .unset, .unset, .unset, .unset, .unset, .unset] [(.int (2 : Int32)), (.ref rw), (.int ((xat + (3 : Int32)) + (2 : Int32))), (.int (xat + (2 : Int32))), (.ref rb), (.int (1 : Int32)), (.long p2)])) rfl (by rw [hml]; rfl) (argsL := [(.long p2), (.int (1 : Int32)), (.ref rb), (.int (xat + (2 : Int32))), (.int ((xat + (3 : Int32)) + (2 : Int32))), (.ref rw), (.int (2 : Int32))]) (rest := []) (lenOf own_pd2 rfl) rfl (by show 2 * 0 + _ ≤ _; exact Nat.le_of_eq rfl) (hb hby at_252) (fun _ _ => ⟨rfl, hh110, (by decide : 2 + 0 ≤ _), (by decide : 13 + 0 ≤ _)⟩)
          dsimp only [Pt.U, Pt.locs, Pt.cells, Pt.slots] at X111 l111 y111 z111 st111 hQ111
          subst l111 y111 z111
          obtain ⟨vn2, x2, y2, z2, G2, rfl, N111q, ex111, e2111, e3111, ab111, aw111, KF111⟩ := hQ111
          have N111 := Fr.app N110 N111q
          refine own_Go.st (fun _ kt => st111 _ kt) ?_
          have zz112 : n0 ≤ Array.size T111.heap := Nat.le_trans zz109 KF111.1
          show own_Go p e below _ (T111.setTop (mkF m 255 #[.val (.long p0), .second, .val (.long p1), .second, .val (.long p2), .second, .val (.int p3), .val (.int (3 : Int32)), .val (.int xat), .val (.int (1 : Int32)), .val (.int (2 : Int32)), .val (.ref rb), .val (.ref rw), .val (.long (1 : Int64)), .second, .val (.long (1 : Int64)), .second, .unset, .unset, .unset, .unset, .unset, .unset] [(.long vn2)]))
          generalize hfb3 : (fun j => if j = (ia + 3 + 2) then Value.double y2 else if j = (ia + 2) then Value.double x2 else fb2 j) = fb3 at ab111
          generalize hfw3 : (fun j => if j = 2 then Value.double z2 else fw2 j) = fw3 at aw111
          have hN2 : vn2.toInt = G2 := e3111 (by decide)
          refine own_Go.st (fun _ kt => XS.goto X111.here hx rfl (pc0 := 255) (pc' := 259) rfl (hb hby at_255) (by decide) (by decide) kt) ?_
          show own_Go p e below _ (T111.setTop (mkF m 259 #[.val (.long p0), .second, .val (.long p1), .second, .val (.long p2), .second, .val (.int p3), .val (.int (3 : Int32)), .val (.int xat), .val (.int (1 : Int32)), .val (.int (2 : Int32)), .val (.ref rb), .val (.ref rw), .val (.long (1 : Int64)), .second, .val (.long (1 : Int64)), .second, .unset, .unset, .unset, .unset, .unset, .unset] [(.long vn2)]))
          refine own_Go.st (fun _ kt => XS.lstore X111.here hx rfl (hb hby at_259) rfl (l' := #[.val (.long p0), .second, .val (.long p1), .second, .val (.long p2), .second, .val (.int p3), .val (.int (3 : Int32)), .val (.int xat), .val (.int (1 : Int32)), .val (.int (2 : Int32)), .val (.ref rb), .val (.ref rw), .val (.long (1 : Int64)), .second, .val (.long (1 : Int64)), .second, .val (.long vn2), .second, .unset, .unset, .unset, .unset]) rfl kt) ?_
          show own_Go p e below _ (T111.setTop (mkF m 261 #[.val (.long p0), .second, .val (.long p1), .second, .val (.long p2), .second, .val (.int p3), .val (.int (3 : Int32)), .val (.int xat), .val (.int (1 : Int32)), .val (.int (2 : Int32)), .val (.ref rb), .val (.ref rw), .val (.long (1 : Int64)), .second, .val (.long (1 : Int64)), .second, .val (.long vn2), .second, .unset, .unset, .unset, .unset] []))
          refine own_Go.st (fun _ kt => XS.aload X111.here hx rfl (hb hby at_261) rfl rfl kt) ?_
          show own_Go p e below _ (T111.setTop (mkF m 263 #[.val (.long p0), .second, .val (.long p1), .second, .val (.long p2), .second, .val (.int p3), .val (.int (3 : Int32)), .val (.int xat), .val (.int (1 : Int32)), .val (.int (2 : Int32)), .val (.ref rb), .val (.ref rw), .val (.long (1 : Int64)), .second, .val (.long (1 : Int64)), .second, .val (.long vn2), .second, .unset, .unset, .unset, .unset] [(.ref rb)]))
          refine own_Go.st (fun _ kt => XS.iload X111.here hx rfl (hb hby at_263) rfl kt) ?_
          show own_Go p e below _ (T111.setTop (mkF m 265 #[.val (.long p0), .second, .val (.long p1), .second, .val (.long p2), .second, .val (.int p3), .val (.int (3 : Int32)), .val (.int xat), .val (.int (1 : Int32)), .val (.int (2 : Int32)), .val (.ref rb), .val (.ref rw), .val (.long (1 : Int64)), .second, .val (.long (1 : Int64)), .second, .val (.long vn2), .second, .unset, .unset, .unset, .unset] [(.int xat), (.ref rb)]))
          refine own_Go.st (fun _ kt => XS.aload X111.here hx rfl (hb hby at_265) rfl rfl kt) ?_
          show own_Go p e below _ (T111.setTop (mkF m 267 #[.val (.long p0), .second, .val (.long p1), .second, .val (.long p2), .second, .val (.int p3), .val (.int (3 : Int32)), .val (.int xat), .val (.int (1 : Int32)), .val (.int (2 : Int32)), .val (.ref rb), .val (.ref rw), .val (.long (1 : Int64)), .second, .val (.long (1 : Int64)), .second, .val (.long vn2), .second, .unset, .unset, .unset, .unset] [(.ref rw), (.int xat), (.ref rb)]))
          have fx0 : fb3 (ia + 0) = .double x0 := by
            subst hfb3 hfb2 hfb1
            dsimp only
            repeat (first | rw [if_pos (by omega)] | rw [if_neg (by omega)])
          have fy0 : fb3 (ia + 3 + 0) = .double y0 := by
            subst hfb3 hfb2 hfb1
            dsimp only
            repeat (first | rw [if_pos (by omega)] | rw [if_neg (by omega)])
          have fz0 : fw3 0 = .double z0 := by
            subst hfw3 hfw2 hfw1
            rfl
          have fx1 : fb3 (ia + 1) = .double x1 := by
            subst hfb3 hfb2 hfb1
            dsimp only
            repeat (first | rw [if_pos (by omega)] | rw [if_neg (by omega)])
          have fy1 : fb3 (ia + 3 + 1) = .double y1 := by
            subst hfb3 hfb2 hfb1
            dsimp only
            repeat (first | rw [if_pos (by omega)] | rw [if_neg (by omega)])
          have fz1 : fw3 1 = .double z1 := by
            subst hfw3 hfw2 hfw1
            rfl
          have fx2 : fb3 (ia + 2) = .double x2 := by
            subst hfb3 hfb2 hfb1
            dsimp only
            repeat (first | rw [if_pos (by omega)] | rw [if_neg (by omega)])
          have fy2 : fb3 (ia + 3 + 2) = .double y2 := by
            subst hfb3 hfb2 hfb1
            dsimp only
            repeat (first | rw [if_pos (by omega)] | rw [if_neg (by omega)])
          have fz2 : fw3 2 = .double z2 := by
            subst hfw3 hfw2 hfw1
            rfl
          have bN0 := own_nb ex105
          have bN1 := own_nb ex108
          have bN2 := own_nb ex111
          have r1 : own_Rep (4 * 4 * ((2 ^ 1070 : Nat) : Int)) := own_rep (4 * 4) 1070 (by decide) (by decide)
          have r2 : own_Rep (4 * 4 * G2 * ((2 ^ 2077 : Nat) : Int)) := own_rep2 _ _ 32 (by decide) (by omega)
          obtain ⟨_, _, ⟨T113, L113, k113, n113⟩, -, X113, ⟨Lc113, hQ113, l113, y113, z113⟩, st113⟩ := Jvm.LawKit.callS X111 hx (y := (⟨"com/example/thicket/thicket/PackedLevel", "grownVolume", "([DI[D)D"⟩ : MethodName)) hown (mvT hZ (hw _ (List.mem_of_getElem? (i := 28) rfl))) (mvT hZ (hw _ (List.mem_of_getElem? (i := 29) rfl))) (mvT hZ (hw _ (List.mem_of_getElem? (i := 30) rfl))) (mvT hZ (hw _ (List.mem_of_getElem? (i := 31) rfl))) (by decide) (backOf (W := 0) (own_gv3 l Z a0 hw [] rb xat rw ia fb3 fw3 x0 y0 z0 4 1072 x1 y1 z1 4 1072 x2 y2 z2 G2 2081 1070 2077 T111.heap n0 zz112 ab111 aw111 hat la ex105 (by decide) fx0 fy0 fz0 ex108 (by decide) fx1 fy1 fz1 ex111 (by decide) fx2 fy2 fz2 (by decide) (by decide) r1 r2) hZ (hw _ (List.mem_of_getElem? (i := 31) rfl)) (hw _ (List.mem_of_getElem? (i := 30) rfl)) (by decide) (by decide)) (g := (mkF m 267 #[.val (.long p0), .second, .val (.long p1), .second, .val (.long p2), .second, .val (.int p3), .val (.int (3 : Int32)), .val (.int xat), .val (.int (1 : Int32)), .val (.int (2 : Int32)), .val (.ref rb), .val (.ref rw), .val (.long (1 : Int64)), .second, .val (.long (1 : Int64)), .second, .val (.long vn2), .second, .unset, .unset, .unset, .unset] [(.ref rw), (.int xat), (.ref rb)])) rfl (by rw [hml]; rfl) (argsL := [(.ref rb), (.int xat), (.ref rw)]) (rest := []) (lenOf own_pd3 rfl) rfl (by show 2 * 0 + _ ≤ _; exact Nat.le_of_eq rfl) (hb hby at_267) (fun _ _ => ⟨rfl, rfl, (by decide : 2 + 0 ≤ _), (by decide : 13 + 0 ≤ _)⟩)
          dsimp only [Pt.U, Pt.locs, Pt.cells, Pt.slots] at X113 l113 y113 z113 st113 hQ113
          subst l113 y113 z113
          obtain ⟨d, rfl, N113q, hv113, hh113⟩ := hQ113
          have N113 := Fr.app N111 N113q
          refine own_Go.st (fun _ kt => st113 _ kt) ?_
          show own_Go p e below _ (T113.setTop (mkF m 270 #[.val (.long p0), .second, .val (.long p1), .second, .val (.long p2), .second, .val (.int p3), .val (.int (3 : Int32)), .val (.int xat), .val (.int (1 : Int32)), .val (.int (2 : Int32)), .val (.ref rb), .val (.ref rw), .val (.long (1 : Int64)), .second, .val (.long (1 : Int64)), .second, .val (.long vn2), .second, .unset, .unset, .unset, .unset] [(.double d)]))
          refine own_Go.st (fun _ kt => XS.dstore X113.here hx rfl (hb hby at_270) rfl (l' := #[.val (.long p0), .second, .val (.long p1), .second, .val (.long p2), .second, .val (.int p3), .val (.int (3 : Int32)), .val (.int xat), .val (.int (1 : Int32)), .val (.int (2 : Int32)), .val (.ref rb), .val (.ref rw), .val (.long (1 : Int64)), .second, .val (.long (1 : Int64)), .second, .val (.long vn2), .second, .val (.double d), .second, .unset, .unset]) rfl kt) ?_
          show own_Go p e below _ (T113.setTop (mkF m 272 #[.val (.long p0), .second, .val (.long p1), .second, .val (.long p2), .second, .val (.int p3), .val (.int (3 : Int32)), .val (.int xat), .val (.int (1 : Int32)), .val (.int (2 : Int32)), .val (.ref rb), .val (.ref rw), .val (.long (1 : Int64)), .second, .val (.long (1 : Int64)), .second, .val (.long vn2), .second, .val (.double d), .second, .unset, .unset] []))
          refine own_Go.st (fun _ kt => XS.iload X113.here hx rfl (hb hby at_272) rfl kt) ?_
          show own_Go p e below _ (T113.setTop (mkF m 274 #[.val (.long p0), .second, .val (.long p1), .second, .val (.long p2), .second, .val (.int p3), .val (.int (3 : Int32)), .val (.int xat), .val (.int (1 : Int32)), .val (.int (2 : Int32)), .val (.ref rb), .val (.ref rw), .val (.long (1 : Int64)), .second, .val (.long (1 : Int64)), .second, .val (.long vn2), .second, .val (.double d), .second, .unset, .unset] [(.int (1 : Int32))]))
          refine own_Go.st (fun _ kt => XS.ifNo X113.here hx rfl (hb hby at_274) rfl ((if0 _ _).trans (feq (by decide)).1) kt) ?_
          show own_Go p e below _ (T113.setTop (mkF m 277 #[.val (.long p0), .second, .val (.long p1), .second, .val (.long p2), .second, .val (.int p3), .val (.int (3 : Int32)), .val (.int xat), .val (.int (1 : Int32)), .val (.int (2 : Int32)), .val (.ref rb), .val (.ref rw), .val (.long (1 : Int64)), .second, .val (.long (1 : Int64)), .second, .val (.long vn2), .second, .val (.double d), .second, .unset, .unset] []))
          refine own_Go.st (fun _ kt => XS.iload X113.here hx rfl (hb hby at_277) rfl kt) ?_
          show own_Go p e below _ (T113.setTop (mkF m 279 #[.val (.long p0), .second, .val (.long p1), .second, .val (.long p2), .second, .val (.int p3), .val (.int (3 : Int32)), .val (.int xat), .val (.int (1 : Int32)), .val (.int (2 : Int32)), .val (.ref rb), .val (.ref rw), .val (.long (1 : Int64)), .second, .val (.long (1 : Int64)), .second, .val (.long vn2), .second, .val (.double d), .second, .unset, .unset] [(.int (2 : Int32))]))
          refine own_Go.st (fun _ kt => XS.ifYes X113.here hx rfl (pc0 := 279) (pc' := 287) rfl (hb hby at_279) rfl ((if0 _ _).trans (feq (by decide)).2) (by decide) (by decide) kt) ?_
          show own_Go p e below _ (T113.setTop (mkF m 287 #[.val (.long p0), .second, .val (.long p1), .second, .val (.long p2), .second, .val (.int p3), .val (.int (3 : Int32)), .val (.int xat), .val (.int (1 : Int32)), .val (.int (2 : Int32)), .val (.ref rb), .val (.ref rw), .val (.long (1 : Int64)), .second, .val (.long (1 : Int64)), .second, .val (.long vn2), .second, .val (.double d), .second, .unset, .unset] []))
          refine own_Go.st (fun _ kt => XS.iload X113.here hx rfl (hb hby at_287) rfl kt) ?_
          show own_Go p e below _ (T113.setTop (mkF m 289 #[.val (.long p0), .second, .val (.long p1), .second, .val (.long p2), .second, .val (.int p3), .val (.int (3 : Int32)), .val (.int xat), .val (.int (1 : Int32)), .val (.int (2 : Int32)), .val (.ref rb), .val (.ref rw), .val (.long (1 : Int64)), .second, .val (.long (1 : Int64)), .second, .val (.long vn2), .second, .val (.double d), .second, .unset, .unset] [(.int (2 : Int32))]))
          refine own_Go.st (fun _ kt => XS.iconst X113.here hx rfl (hb hby at_289) kt) ?_
          show own_Go p e below _ (T113.setTop (mkF m 290 #[.val (.long p0), .second, .val (.long p1), .second, .val (.long p2), .second, .val (.int p3), .val (.int (3 : Int32)), .val (.int xat), .val (.int (1 : Int32)), .val (.int (2 : Int32)), .val (.ref rb), .val (.ref rw), .val (.long (1 : Int64)), .second, .val (.long (1 : Int64)), .second, .val (.long vn2), .second, .val (.double d), .second, .unset, .unset] [(.int (1 : Int32)), (.int (2 : Int32))]))
          refine own_Go.st (fun _ kt => XS.icmpYes X113.here hx rfl (pc0 := 290) (pc' := 298) rfl (hb hby at_290) rfl (feq (by decide)).2 (by decide) (by decide) kt) ?_
          show own_Go p e below _ (T113.setTop (mkF m 298 #[.val (.long p0), .second, .val (.long p1), .second, .val (.long p2), .second, .val (.int p3), .val (.int (3 : Int32)), .val (.int xat), .val (.int (1 : Int32)), .val (.int (2 : Int32)), .val (.ref rb), .val (.ref rw), .val (.long (1 : Int64)), .second, .val (.long (1 : Int64)), .second, .val (.long vn2), .second, .val (.double d), .second, .unset, .unset] []))
          refine own_Go.st (fun _ kt => XS.lload X113.here hx rfl (hb hby at_298) rfl kt) ?_
          show own_Go p e below _ (T113.setTop (mkF m 300 #[.val (.long p0), .second, .val (.long p1), .second, .val (.long p2), .second, .val (.int p3), .val (.int (3 : Int32)), .val (.int xat), .val (.int (1 : Int32)), .val (.int (2 : Int32)), .val (.ref rb), .val (.ref rw), .val (.long (1 : Int64)), .second, .val (.long (1 : Int64)), .second, .val (.long vn2), .second, .val (.double d), .second, .unset, .unset] [(.long vn2)]))
          refine own_Go.st (fun _ kt => XS.lstore X113.here hx rfl (hb hby at_300) rfl (l' := #[.val (.long p0), .second, .val (.long p1), .second, .val (.long p2), .second, .val (.int p3), .val (.int (3 : Int32)), .val (.int xat), .val (.int (1 : Int32)), .val (.int (2 : Int32)), .val (.ref rb), .val (.ref rw), .val (.long (1 : Int64)), .second, .val (.long (1 : Int64)), .second, .val (.long vn2), .second, .val (.double d), .second, .val (.long vn2), .second]) rfl kt) ?_
          show own_Go p e below _ (T113.setTop (mkF m 302 #[.val (.long p0), .second, .val (.long p1), .second, .val (.long p2), .second, .val (.int p3), .val (.int (3 : Int32)), .val (.int xat), .val (.int (1 : Int32)), .val (.int (2 : Int32)), .val (.ref rb), .val (.ref rw), .val (.long (1 : Int64)), .second, .val (.long (1 : Int64)), .second, .val (.long vn2), .second, .val (.double d), .second, .val (.long vn2), .second] []))
          refine own_Go.st (fun _ kt => XS.dload X113.here hx rfl (hb hby at_302) rfl kt) ?_
          show own_Go p e below _ (T113.setTop (mkF m 304 #[.val (.long p0), .second, .val (.long p1), .second, .val (.long p2), .second, .val (.int p3), .val (.int (3 : Int32)), .val (.int xat), .val (.int (1 : Int32)), .val (.int (2 : Int32)), .val (.ref rb), .val (.ref rw), .val (.long (1 : Int64)), .second, .val (.long (1 : Int64)), .second, .val (.long vn2), .second, .val (.double d), .second, .val (.long vn2), .second] [(.double d)]))
          refine own_Go.st (fun _ kt => XS.lload X113.here hx rfl (hb hby at_304) rfl kt) ?_
          show own_Go p e below _ (T113.setTop (mkF m 306 #[.val (.long p0), .second, .val (.long p1), .second, .val (.long p2), .second, .val (.int p3), .val (.int (3 : Int32)), .val (.int xat), .val (.int (1 : Int32)), .val (.int (2 : Int32)), .val (.ref rb), .val (.ref rw), .val (.long (1 : Int64)), .second, .val (.long (1 : Int64)), .second, .val (.long vn2), .second, .val (.double d), .second, .val (.long vn2), .second] [(.long vn2), (.double d)]))
          refine own_Go.st (fun _ kt => XS.l2dS X113.here hx rfl (hb hby at_306) rfl rfl kt) ?_
          show own_Go p e below _ (T113.setTop (mkF m 307 #[.val (.long p0), .second, .val (.long p1), .second, .val (.long p2), .second, .val (.int p3), .val (.int (3 : Int32)), .val (.int xat), .val (.int (1 : Int32)), .val (.int (2 : Int32)), .val (.ref rb), .val (.ref rw), .val (.long (1 : Int64)), .second, .val (.long (1 : Int64)), .second, .val (.long vn2), .second, .val (.double d), .second, .val (.long vn2), .second] [(.double (FP.l2d vn2)), (.double d)]))
          refine own_Go.st (fun _ kt => X113.ldc2DoubleC hx hown (mvT hZ (hw _ (List.mem_of_getElem? (i := 35) rfl))) (g := (mkF m 307 #[.val (.long p0), .second, .val (.long p1), .second, .val (.long p2), .second, .val (.int p3), .val (.int (3 : Int32)), .val (.int xat), .val (.int (1 : Int32)), .val (.int (2 : Int32)), .val (.ref rb), .val (.ref rw), .val (.long (1 : Int64)), .second, .val (.long (1 : Int64)), .second, .val (.long vn2), .second, .val (.double d), .second, .val (.long vn2), .second] [(.double (FP.l2d vn2)), (.double d)])) rfl (hb hby at_307) _ kt) ?_
          show own_Go p e below _ (T113.setTop (mkF m 310 #[.val (.long p0), .second, .val (.long p1), .second, .val (.long p2), .second, .val (.int p3), .val (.int (3 : Int32)), .val (.int xat), .val (.int (1 : Int32)), .val (.int (2 : Int32)), .val (.ref rb), .val (.ref rw), .val (.long (1 : Int64)), .second, .val (.long (1 : Int64)), .second, .val (.long vn2), .second, .val (.double d), .second, .val (.long vn2), .second] [(.double (9142307243562106880 : UInt64)), (.double (FP.l2d vn2)), (.double d)]))
          have hl := own_l2d (a := vn2) (by omega)
          rw [hN2] at hl
          have hm := own_mulP (D := 2081) hl own_D1007 (by decide) (by rw [Int.mul_one]; exact own_rep2 _ _ 36 (by decide) (by omega))
          rw [Int.mul_one] at hm
          refine own_Go.st (fun _ kt => XS.dmulS X113.here hx rfl (hb hby at_310) rfl (hm.n64) rfl kt) ?_
          show own_Go p e below _ (T113.setTop (mkF m 311 #[.val (.long p0), .second, .val (.long p1), .second, .val (.long p2), .second, .val (.int p3), .val (.int (3 : Int32)), .val (.int xat), .val (.int (1 : Int32)), .val (.int (2 : Int32)), .val (.ref rb), .val (.ref rw), .val (.long (1 : Int64)), .second, .val (.long (1 : Int64)), .second, .val (.long vn2), .second, .val (.double d), .second, .val (.long vn2), .second] [(.double (FP.dmul (FP.l2d vn2) (9142307243562106880 : UInt64))), (.double d)]))
          have heq : 4 * 4 * G2 * ((2 ^ 2077 : Nat) : Int) = G2 * ((2 ^ 2081 : Nat) : Int) := own_four3c G2
          rw [heq] at hv113
          refine own_Go.st (fun _ kt => XS.dcmpS X113.here hx rfl (hb hby at_311) rfl (own_deq hv113 hm _) kt) ?_
          show own_Go p e below _ (T113.setTop (mkF m 312 #[.val (.long p0), .second, .val (.long p1), .second, .val (.long p2), .second, .val (.int p3), .val (.int (3 : Int32)), .val (.int xat), .val (.int (1 : Int32)), .val (.int (2 : Int32)), .val (.ref rb), .val (.ref rw), .val (.long (1 : Int64)), .second, .val (.long (1 : Int64)), .second, .val (.long vn2), .second, .val (.double d), .second, .val (.long vn2), .second] [(.int (0 : Int32))]))
          refine own_Go.st (fun _ kt => XS.ifNo X113.here hx rfl (hb hby at_312) rfl ((if0 _ _).trans (teq rfl).2) kt) ?_
          show own_Go p e below _ (T113.setTop (mkF m 315 #[.val (.long p0), .second, .val (.long p1), .second, .val (.long p2), .second, .val (.int p3), .val (.int (3 : Int32)), .val (.int xat), .val (.int (1 : Int32)), .val (.int (2 : Int32)), .val (.ref rb), .val (.ref rw), .val (.long (1 : Int64)), .second, .val (.long (1 : Int64)), .second, .val (.long vn2), .second, .val (.double d), .second, .val (.long vn2), .second] []))
          refine own_Go.st (fun _ kt => XS.iconst X113.here hx rfl (hb hby at_315) kt) ?_
          show own_Go p e below _ (T113.setTop (mkF m 316 #[.val (.long p0), .second, .val (.long p1), .second, .val (.long p2), .second, .val (.int p3), .val (.int (3 : Int32)), .val (.int xat), .val (.int (1 : Int32)), .val (.int (2 : Int32)), .val (.ref rb), .val (.ref rw), .val (.long (1 : Int64)), .second, .val (.long (1 : Int64)), .second, .val (.long vn2), .second, .val (.double d), .second, .val (.long vn2), .second] [(.int (1 : Int32))]))
          refine own_Go.st (fun _ kt => XS.goto X113.here hx rfl (pc0 := 316) (pc' := 320) rfl (hb hby at_316) (by decide) (by decide) kt) ?_
          show own_Go p e below _ (T113.setTop (mkF m 320 #[.val (.long p0), .second, .val (.long p1), .second, .val (.long p2), .second, .val (.int p3), .val (.int (3 : Int32)), .val (.int xat), .val (.int (1 : Int32)), .val (.int (2 : Int32)), .val (.ref rb), .val (.ref rw), .val (.long (1 : Int64)), .second, .val (.long (1 : Int64)), .second, .val (.long vn2), .second, .val (.double d), .second, .val (.long vn2), .second] [(.int (1 : Int32))]))
          exact own_retZ X113 hx Bd.notSynchronized Bd.returns (Or.inr rfl) (hb hby at_320) (by decide) (by decide) ⟨rfl, N113⟩
  by_cases hh24 : (((p3.toUInt32 >>> ((4 : Int32) &&& 31).toUInt32).toInt32) &&& (1 : Int32)) = (0 : Int32)
  · refine own_Go.st (fun _ kt => XS.ifYes X0.here hx rfl (pc0 := 24) (pc' := 31) rfl (hb hby at_24) rfl ((if0 _ _).trans (teq hh24).1) (by decide) (by decide) kt) ?_
    show own_Go p e below _ (s₁.setTop (mkF m 31 #[.val (.long p0), .second, .val (.long p1), .second, .val (.long p2), .second, .val (.int p3), .val (.int xd), .val (.int xat), .unset, .unset, .unset, .unset, .unset, .unset, .unset, .unset, .unset, .unset, .unset, .unset, .unset, .unset] []))
    refine own_Go.st (fun _ kt => XS.iconst X0.here hx rfl (hb hby at_31) kt) ?_
    show own_Go p e below _ (s₁.setTop (mkF m 32 #[.val (.long p0), .second, .val (.long p1), .second, .val (.long p2), .second, .val (.int p3), .val (.int xd), .val (.int xat), .unset, .unset, .unset, .unset, .unset, .unset, .unset, .unset, .unset, .unset, .unset, .unset, .unset, .unset] [(.int (0 : Int32))]))
    refine own_Go.st (fun _ kt => XS.istore X0.here hx rfl (hb hby at_32) rfl (l' := #[.val (.long p0), .second, .val (.long p1), .second, .val (.long p2), .second, .val (.int p3), .val (.int xd), .val (.int xat), .val (.int (0 : Int32)), .unset, .unset, .unset, .unset, .unset, .unset, .unset, .unset, .unset, .unset, .unset, .unset, .unset]) rfl kt) ?_
    show own_Go p e below _ (s₁.setTop (mkF m 34 #[.val (.long p0), .second, .val (.long p1), .second, .val (.long p2), .second, .val (.int p3), .val (.int xd), .val (.int xat), .val (.int (0 : Int32)), .unset, .unset, .unset, .unset, .unset, .unset, .unset, .unset, .unset, .unset, .unset, .unset, .unset] []))
    exact J34 _ _ X0 e0 N0 _ (Or.inl rfl)
  · refine own_Go.st (fun _ kt => XS.ifNo X0.here hx rfl (hb hby at_24) rfl ((if0 _ _).trans (feq hh24).1) kt) ?_
    show own_Go p e below _ (s₁.setTop (mkF m 27 #[.val (.long p0), .second, .val (.long p1), .second, .val (.long p2), .second, .val (.int p3), .val (.int xd), .val (.int xat), .unset, .unset, .unset, .unset, .unset, .unset, .unset, .unset, .unset, .unset, .unset, .unset, .unset, .unset] []))
    refine own_Go.st (fun _ kt => XS.iconst X0.here hx rfl (hb hby at_27) kt) ?_
    show own_Go p e below _ (s₁.setTop (mkF m 28 #[.val (.long p0), .second, .val (.long p1), .second, .val (.long p2), .second, .val (.int p3), .val (.int xd), .val (.int xat), .unset, .unset, .unset, .unset, .unset, .unset, .unset, .unset, .unset, .unset, .unset, .unset, .unset, .unset] [(.int (1 : Int32))]))
    refine own_Go.st (fun _ kt => XS.goto X0.here hx rfl (pc0 := 28) (pc' := 32) rfl (hb hby at_28) (by decide) (by decide) kt) ?_
    show own_Go p e below _ (s₁.setTop (mkF m 32 #[.val (.long p0), .second, .val (.long p1), .second, .val (.long p2), .second, .val (.int p3), .val (.int xd), .val (.int xat), .unset, .unset, .unset, .unset, .unset, .unset, .unset, .unset, .unset, .unset, .unset, .unset, .unset, .unset] [(.int (1 : Int32))]))
    refine own_Go.st (fun _ kt => XS.istore X0.here hx rfl (hb hby at_32) rfl (l' := #[.val (.long p0), .second, .val (.long p1), .second, .val (.long p2), .second, .val (.int p3), .val (.int xd), .val (.int xat), .val (.int (1 : Int32)), .unset, .unset, .unset, .unset, .unset, .unset, .unset, .unset, .unset, .unset, .unset, .unset, .unset]) rfl kt) ?_
    show own_Go p e below _ (s₁.setTop (mkF m 34 #[.val (.long p0), .second, .val (.long p1), .second, .val (.long p2), .second, .val (.int p3), .val (.int xd), .val (.int xat), .val (.int (1 : Int32)), .unset, .unset, .unset, .unset, .unset, .unset, .unset, .unset, .unset, .unset, .unset, .unset, .unset] []))
    exact J34 _ _ X0 e0 N0 _ (Or.inr rfl)
set_option maxRecDepth 65536 in
set_option maxHeartbeats 40000000 in
theorem own_comes_1 {Post : Tables → Env → Array Value → State → Outcome → State → Prop} (hpost : ∀ tb e args s v u, (limb_1_1.after args s (.returned v) u = true ∧ limb_1_2.after args s (.returned v) u = true ∧ True) → FrameEnd s (.returned v) u (Jvm.fieldLocs frame_1_writes args s ++ Jvm.arrayLocs frame_1_arrays args s ++ Jvm.staticLocs frame_1_statics s) 16 128 → Post tb e args s (.returned v) u) :
    ArmFor flags0 classFile x code maxLocals ret World_1 tables_1 room_1 Calls_1 rest_1 Pre_1 Post := by
  intro l hfl _ _ p e ha hc hk s m args below hf hA hF happ hP
  obtain ⟨hcalls, hrest, hpre⟩ := hP
  obtain ⟨-, -, -, hnamed, -, -, -, hat⟩ := (Spec.applies_iff hf).mp happ
  obtain ⟨hg, hn⟩ := and_e (Cond.before_iff.mp (show (Jvm.Cond.and given_1 narrow_1).before args s = true from hpre))
  obtain ⟨hg0, hg1⟩ := and_e hg
  obtain ⟨ha0, hb0⟩ := and_e hg1
  obtain ⟨ha1, hb1⟩ := and_e hb0
  obtain ⟨ha2, hb2⟩ := and_e hb1
  obtain ⟨w0, w1, w2, w3, rfl⟩ : ∃ w0 w1 w2 w3 : Value, args = #[w0, w1, w2, w3] := by
    have hs : args.size = 4 := by simpa [Cond.value, given_1] using hg0
    obtain ⟨L⟩ := args
    match L, hs with
    | [w0, w1, w2, w3], _ => exact ⟨w0, w1, w2, w3, rfl⟩
  have hw := fun d (hd : d ∈ tables_1) => atoms_spec (ws := Jvm.Cond.code x code maxLocals ret :: tables_1) hat d (List.mem_cons_of_mem _ hd)
  have hfit : Fit s := fun {y c} hc i hi => by
    obtain ⟨ha, rfl⟩ := Array.getElem?_eq_some_iff.mp hc
    have q := List.all_eq_true.mp ((Array.all_eq_true_iff_forall_mem.mp hF) _ (Array.getElem_mem ha)) i (List.mem_range.mpr hi)
    simpa [Array.getElem?_eq_getElem hi] using q
  obtain ⟨p0, ep0⟩ := isL_v ha0
  obtain rfl : w0 = (.long p0) := Option.some.inj ep0
  obtain ⟨p1, ep1⟩ := isL_v ha1
  obtain rfl : w1 = (.long p1) := Option.some.inj ep1
  obtain ⟨p2, ep2⟩ := isL_v ha2
  obtain rfl : w2 = (.long p2) := Option.some.inj ep2
  obtain ⟨p3, ep3⟩ := is_v hb2
  obtain rfl : w3 = (.int p3) := Option.some.inj ep3

  obtain ⟨n, o, h1, h2, h3, _, L, rfl, ⟨rfl, N⟩, hq⟩ := own_law l s _ hw tables_1 p0 p1 p2 p3  s.heap s.heap.size (Nat.le_refl _)  p e ha hc hk s m _ below hf ((Spec.applies_iff_loose hf).mp happ).1 ⟨rfl, State.Warmed39.refl s, rfl⟩ trivial
  refine ⟨n, _, h1, h2, h3, hpost _ _ _ _ _ _ ⟨Cond.after_iff.mpr rfl, Cond.after_iff.mpr (eq_i res_at (Term.int_eval (1)) rfl), trivial⟩ ⟨hq.1, hq.2.1, (hq.2.2.sift fun y hy => Or.inr (N y hy)).mono (by decide) (by decide)⟩⟩
theorem main_1_1 : Claimed_1_1 := own_comes_1 fun _ _ _ _ _ _ h hF => ⟨h.1, hF⟩
theorem main_1_2 : Claimed_1_2 := own_comes_1 fun _ _ _ _ _ _ h hF => ⟨h.2.1, hF⟩

end Jvm.Pilot.@@N@@
namespace Jvm.Pilot.@@N@@
open Jvm Jvm.ClassFile Sem Op Lib Jvm.Free Jvm.Stand Jvm.Pilot.@@N@@.Jvm.D
/-! MADE BY PROGRAM (witnessworld.py) out of the Statement's table words and the real class files: 12 classes; the members and pool entries that the words name. The judged class is class 1, her method 1. -/
namespace start1
open Jvm.ClassFile
def u (s : String) : CpInfo := .utf8 (stringToUtf16 s)
/-- a pool by its gaps: so many unusable entries, then the entry; so many at the end -/
def gap : Nat → List CpInfo → List CpInfo
  | 0, r => r
  | n + 1, r => .unusable :: gap n r
def poolList (es : List (Nat × CpInfo)) (last : Nat) : List CpInfo := es.foldr (fun e r => gap e.1 (e.2 :: r)) (gap last [])
def pool (es : List (Nat × CpInfo)) (last : Nat) : Array CpInfo := ⟨poolList es last⟩
def fileOf (pool : Array CpInfo) (this : Nat) (attrs : Array Attribute := #[]) (ms : Array MethodInfo := #[]) (fl : Nat := 33) (sup : Nat := 0) (ifs : Array Nat := #[]) (fds : Array FieldInfo := #[]) : ClassFile where
  minorVersion := 0
  majorVersion := 65
  constantPool := pool
  accessFlags := fl
  thisClass := this
  superClass := sup
  interfaces := ifs
  fields := fds
  methods := ms
  attributes := attrs
def plain (name : String) (sup : Option ClassId) : Class where
  name := name
  kind := .ordinary
  loader := none
  accessFlags := 33
  super := sup
  interfaces := #[]
  cf := none
  fields := #[]
  methods := #[]
  instanceTypes := #[]
  staticTypes := #[]
  resolved := #[]
  callSites := []
  init := .initialized
  statics := none
  mirror := none

def pool0 : Array CpInfo := pool [(5, u "<init>"), (0, u "()V"), (1, .class_ 10), (1, u "java/lang/Object")] 113

def k0m0 : Method := { name := "<init>", desc := "()V", sig := { parameters := [], returnType := none }, accessFlags := 1, code := none }
/-- java/lang/Object -/
def k0 : Class := { plain "java/lang/Object" none with
  accessFlags := 33
  interfaces := #[]
  cf := some (fileOf pool0 8 #[] #[{ accessFlags := 1, nameIndex := 5, descriptorIndex := 6, attributes := #[] }] 33 0 #[] #[])
  fields := #[]
  methods := #[k0m0]
  instanceTypes := #[]
  staticTypes := #[]
  resolved := Array.replicate 124 none
  statics := none }

def pool1 : Array CpInfo := pool [(2, .class_ 4), (1, u "java/lang/Object"), (0, u "<init>"), (0, u "()V"), (0, .double 4652007308841189376), (1, .double 13879887343369846784), (1, .double 4658819882886889472), (1, .double 13884393142020472832), (1, .double 4662223970886483968), (1, .double 13886696618880663552), (1, .double 4664425193165291520), (1, .double 13888897841159471104), (1, .double 4666177814699966464), (1, .double 13890100157124444160), (1, .methodref 28 29), (0, .class_ 30), (0, .nameAndType 31 32), (0, u "com/example/thicket/thicket/PackedLevelGrownVolumePinLaw"), (0, u "mode"), (0, u "(ZII)I"), (0, .methodref 28 34), (0, .nameAndType 35 36), (0, u "fill"), (0, u "(JI[DII[DI)J"), (0, .methodref 38 39), (0, .class_ 40), (0, .nameAndType 41 42), (0, u "com/example/thicket/thicket/PackedLevel"), (0, u "grownVolume"), (0, u "([DI[D)D"), (0, .double 9142307243562106880), (1, .double 4616189618054758400), (1, .double 4625196817309499392), (1, .double 4634204016564240384), (1, .long 32768), (1, .methodref 54 55), (0, .class_ 56), (0, .nameAndType 57 58), (0, u "java/lang/Math"), (0, u "min"), (0, u "(II)I"), (0, .methodref 54 60), (0, .nameAndType 61 58), (0, u "max"), (0, .long 65535), (1, .double 9151314442816847872), (3, u "law"), (0, u "(JJJI)Z")] 5

def k1m0 : Method := { name := "<init>", desc := "()V", sig := { parameters := [], returnType := none }, accessFlags := 1, code := none }
def k1c1 : Code := { maxStack := 8, maxLocals := 23, code := code, exceptionTable := #[], attributes := #[] }
def k1m1 : Method := { name := "law", desc := "(JJJI)Z", sig := { parameters := [.long, .long, .long, .int], returnType := some .boolean }, accessFlags := 9, code := some k1c1 }
def k1c2 : Code := { maxStack := 2, maxLocals := 3, code := method_3_code, exceptionTable := #[], attributes := #[] }
def k1m2 : Method := { name := "mode", desc := "(ZII)I", sig := { parameters := [.boolean, .int, .int], returnType := some .int }, accessFlags := 10, code := some k1c2 }
def k1c3 : Code := { maxStack := 6, maxLocals := 14, code := method_4_code, exceptionTable := #[], attributes := #[] }
def k1m3 : Method := { name := "fill", desc := "(JI[DII[DI)J", sig := { parameters := [.long, .int, (.array .double), .int, .int, (.array .double), .int], returnType := some .long }, accessFlags := 10, code := some k1c3 }
/-- com/example/thicket/thicket/PackedLevelGrownVolumePinLaw -/
def k1 : Class := { plain "com/example/thicket/thicket/PackedLevelGrownVolumePinLaw" (some 0) with
  accessFlags := 49
  interfaces := #[]
  cf := some (fileOf pool1 28 #[] #[{ accessFlags := 1, nameIndex := 5, descriptorIndex := 6, attributes := #[] }, { accessFlags := 9, nameIndex := 68, descriptorIndex := 69, attributes := #[] }, { accessFlags := 10, nameIndex := 31, descriptorIndex := 32, attributes := #[] }, { accessFlags := 10, nameIndex := 35, descriptorIndex := 36, attributes := #[] }] 49 2 #[] #[])
  fields := #[]
  methods := #[k1m0, k1m1, k1m2, k1m3]
  instanceTypes := #[]
  staticTypes := #[]
  resolved := Array.replicate 75 none
  statics := none }

def pool2 : Array CpInfo := pool [(1, .class_ 2), (0, u "java/lang/Math"), (1, .class_ 6), (1, u "java/lang/Object"), (0, u "<init>"), (0, u "()V"), (89, .class_ 100), (1, u "java/lang/Math$RandomNumberGeneratorHolder"), (71, u "negativeZeroFloatBits"), (0, u "J"), (2, u "negativeZeroDoubleBits"), (21, u "max"), (2, u "min"), (43, u "$assertionsDisabled"), (0, u "Z"), (88, u "(II)I"), (2, u "twoToTheDoubleScaleDown"), (0, u "D"), (4, u "twoToTheDoubleScaleUp"), (9, u "E"), (3, u "PI"), (2, u "TAU"), (2, u "DEGREES_TO_RADIANS"), (0, u "RADIANS_TO_DEGREES")] 94

def k2m0 : Method := { name := "<init>", desc := "()V", sig := { parameters := [], returnType := none }, accessFlags := 2, code := none }
def k2c1 : Code := { maxStack := 2, maxLocals := 2, code := jdk_29_method_65_code, exceptionTable := #[], attributes := #[] }
def k2m1 : Method := { name := "max", desc := "(II)I", sig := { parameters := [.int, .int], returnType := some .int }, accessFlags := 9, code := some k2c1 }
def k2c2 : Code := { maxStack := 2, maxLocals := 2, code := jdk_29_method_69_code, exceptionTable := #[], attributes := #[] }
def k2m2 : Method := { name := "min", desc := "(II)I", sig := { parameters := [.int, .int], returnType := some .int }, accessFlags := 9, code := some k2c2 }
/-- java/lang/Math -/
def k2 : Class := { plain "java/lang/Math" (some 0) with
  accessFlags := 49
  interfaces := #[]
  cf := some (fileOf pool2 1 #[.nestMembers #[98]] #[{ accessFlags := 2, nameIndex := 7, descriptorIndex := 8, attributes := #[] }, { accessFlags := 9, nameIndex := 198, descriptorIndex := 335, attributes := #[] }, { accessFlags := 9, nameIndex := 201, descriptorIndex := 335, attributes := #[] }] 49 4 #[] #[{ accessFlags := 25, nameIndex := 354, descriptorIndex := 339, attributes := #[] }, { accessFlags := 25, nameIndex := 358, descriptorIndex := 339, attributes := #[] }, { accessFlags := 25, nameIndex := 361, descriptorIndex := 339, attributes := #[] }, { accessFlags := 26, nameIndex := 364, descriptorIndex := 339, attributes := #[] }, { accessFlags := 26, nameIndex := 365, descriptorIndex := 339, attributes := #[] }, { accessFlags := 26, nameIndex := 172, descriptorIndex := 173, attributes := #[] }, { accessFlags := 26, nameIndex := 176, descriptorIndex := 173, attributes := #[] }, { accessFlags := 8, nameIndex := 344, descriptorIndex := 339, attributes := #[] }, { accessFlags := 8, nameIndex := 338, descriptorIndex := 339, attributes := #[] }, { accessFlags := 4120, nameIndex := 245, descriptorIndex := 246, attributes := #[] }])
  fields := #[{ name := "E", type := .double, accessFlags := 25, slot := 0, constantValue := 0 }, { name := "PI", type := .double, accessFlags := 25, slot := 1, constantValue := 0 }, { name := "TAU", type := .double, accessFlags := 25, slot := 2, constantValue := 0 }, { name := "DEGREES_TO_RADIANS", type := .double, accessFlags := 26, slot := 3, constantValue := 0 }, { name := "RADIANS_TO_DEGREES", type := .double, accessFlags := 26, slot := 4, constantValue := 0 }, { name := "negativeZeroFloatBits", type := .long, accessFlags := 26, slot := 5, constantValue := 0 }, { name := "negativeZeroDoubleBits", type := .long, accessFlags := 26, slot := 6, constantValue := 0 }, { name := "twoToTheDoubleScaleUp", type := .double, accessFlags := 8, slot := 7, constantValue := 0 }, { name := "twoToTheDoubleScaleDown", type := .double, accessFlags := 8, slot := 8, constantValue := 0 }, { name := "$assertionsDisabled", type := .boolean, accessFlags := 4120, slot := 9, constantValue := 0 }]
  methods := #[k2m0, k2m1, k2m2]
  instanceTypes := #[]
  staticTypes := #[.double, .double, .double, .double, .double, .long, .long, .double, .double, .boolean]
  resolved := Array.replicate 460 none
  statics := none }

def pool3 : Array CpInfo := pool [(2, .class_ 4), (1, u "java/lang/Object"), (3, .class_ 10), (1, u "com/example/thicket/thicket/PackedLevel"), (0, u "dims"), (0, u "I"), (2, u "corners"), (0, u "[J"), (2, u "tieOrder"), (0, u "[I"), (2, u "quarterWindow"), (0, u "[D"), (8, u "diagonalX"), (0, u "D"), (2, u "diagonalY"), (3, .class_ 42), (0, u "com/example/thicket/thicket/PackedLevel$Key"), (1, .class_ 46), (1, u "com/example/thicket/thicket/PackedLevel$Kind"), (22, u "[Lcom/example/thicket/thicket/PackedLevel$Key;"), (2, u "cutsAnew"), (3, u "kept"), (0, u "[[I"), (29, .class_ 108), (0, u "com/example/thicket/thicket/PackedLevel$Runs"), (38, .class_ 148), (0, u "com/example/thicket/thicket/PackedLevel$Pairs"), (29, u "NONE_LEAST"), (0, u "J"), (6, u "NONE_GREATEST"), (12, u "grownVolume"), (0, u "([DI[D)D"), (0, .double 4616189618054758400), (47, u "PASSES"), (2, u "HALVINGS")] 24

def k3c0 : Code := { maxStack := 8, maxLocals := 7, code := prog_62_method_14_code, exceptionTable := #[], attributes := #[] }
def k3m0 : Method := { name := "grownVolume", desc := "([DI[D)D", sig := { parameters := [(.array .double), .int, (.array .double)], returnType := some .double }, accessFlags := 8, code := some k3c0 }
/-- com/example/thicket/thicket/PackedLevel -/
def k3 : Class := { plain "com/example/thicket/thicket/PackedLevel" (some 0) with
  accessFlags := 48
  interfaces := #[]
  cf := some (fileOf pool3 8 #[.nestMembers #[147, 107, 41, 44]] #[{ accessFlags := 8, nameIndex := 199, descriptorIndex := 200, attributes := #[] }] 48 2 #[] #[{ accessFlags := 26, nameIndex := 249, descriptorIndex := 12, attributes := #[] }, { accessFlags := 26, nameIndex := 252, descriptorIndex := 12, attributes := #[] }, { accessFlags := 24, nameIndex := 178, descriptorIndex := 179, attributes := #[] }, { accessFlags := 24, nameIndex := 186, descriptorIndex := 179, attributes := #[] }, { accessFlags := 18, nameIndex := 11, descriptorIndex := 12, attributes := #[] }, { accessFlags := 18, nameIndex := 15, descriptorIndex := 16, attributes := #[] }, { accessFlags := 18, nameIndex := 19, descriptorIndex := 20, attributes := #[] }, { accessFlags := 18, nameIndex := 23, descriptorIndex := 24, attributes := #[] }, { accessFlags := 18, nameIndex := 33, descriptorIndex := 34, attributes := #[] }, { accessFlags := 18, nameIndex := 37, descriptorIndex := 34, attributes := #[] }, { accessFlags := 18, nameIndex := 72, descriptorIndex := 69, attributes := #[] }, { accessFlags := 18, nameIndex := 76, descriptorIndex := 77, attributes := #[] }])
  fields := #[{ name := "PASSES", type := .int, accessFlags := 26, slot := 0, constantValue := 0 }, { name := "HALVINGS", type := .int, accessFlags := 26, slot := 1, constantValue := 0 }, { name := "NONE_LEAST", type := .long, accessFlags := 24, slot := 2, constantValue := 0 }, { name := "NONE_GREATEST", type := .long, accessFlags := 24, slot := 3, constantValue := 0 }, { name := "dims", type := .int, accessFlags := 18, slot := 0, constantValue := 0 }, { name := "corners", type := (.array .long), accessFlags := 18, slot := 1, constantValue := 0 }, { name := "tieOrder", type := (.array .int), accessFlags := 18, slot := 2, constantValue := 0 }, { name := "quarterWindow", type := (.array .double), accessFlags := 18, slot := 3, constantValue := 0 }, { name := "diagonalX", type := .double, accessFlags := 18, slot := 4, constantValue := 0 }, { name := "diagonalY", type := .double, accessFlags := 18, slot := 5, constantValue := 0 }, { name := "cutsAnew", type := (.array (.object "com/example/thicket/thicket/PackedLevel$Key")), accessFlags := 18, slot := 6, constantValue := 0 }, { name := "kept", type := (.array (.array .int)), accessFlags := 18, slot := 7, constantValue := 0 }]
  methods := #[k3m0]
  instanceTypes := #[.int, (.array .long), (.array .int), (.array .double), .double, .double, (.array (.object "com/example/thicket/thicket/PackedLevel$Key")), (.array (.array .int))]
  staticTypes := #[.int, .int, .long, .long]
  resolved := Array.replicate 277 none
  statics := none }

def pool4 : Array CpInfo := pool [(1, u "java/lang/Cloneable"), (0, .class_ 1), (0, u "java/lang/Object"), (0, .class_ 3)] 3

/-- java/lang/Cloneable -/
def k4 : Class := { plain "java/lang/Cloneable" (some 0) with
  accessFlags := 1537
  interfaces := #[]
  cf := some (fileOf pool4 2 #[] #[] 1537 4 #[] #[])
  fields := #[]
  methods := #[]
  instanceTypes := #[]
  staticTypes := #[]
  resolved := Array.replicate 8 none
  statics := none }

def pool5 : Array CpInfo := pool [(1, u "java/io/Serializable"), (0, .class_ 1), (0, u "java/lang/Object"), (0, .class_ 3)] 3

/-- java/io/Serializable -/
def k5 : Class := { plain "java/io/Serializable" (some 0) with
  accessFlags := 1537
  interfaces := #[]
  cf := some (fileOf pool5 2 #[] #[] 1537 4 #[] #[])
  fields := #[]
  methods := #[]
  instanceTypes := #[]
  staticTypes := #[]
  resolved := Array.replicate 8 none
  statics := none }

/-- the primitive byte -/
def k6 : Class := { plain "byte" none with kind := .primitive 'B', accessFlags := 0x411 }
/-- [B -/
def k7 : Class := { plain "[B" (some 0) with kind := .array 6 .byte, interfaces := #[4, 5], accessFlags := 1041 }

/-- the primitive double -/
def k8 : Class := { plain "double" none with kind := .primitive 'D', accessFlags := 0x411 }
/-- [D -/
def k9 : Class := { plain "[D" (some 0) with kind := .array 8 .double, interfaces := #[4, 5], accessFlags := 1041 }

/-- the primitive int -/
def k10 : Class := { plain "int" none with kind := .primitive 'I', accessFlags := 0x411 }
/-- [I -/
def k11 : Class := { plain "[I" (some 0) with kind := .array 10 .int, interfaces := #[4, 5], accessFlags := 1041 }

def heap : Heap := #[]
def classes : Array Class := #[k0, k1, k2, k3, k4, k5, k6, k7, k8, k9, k10, k11]
def interned : List (Array UInt16 × Addr) := []
def slotsUsed : Nat := 0
def theMethod : MethodId := ⟨1, 1⟩
def args0 : Array Value := #[.long 5, .long 9, .long 7, .int 4]
def aboutOver (below : List Frame) : State where
  vm := { classes := classes, interned := interned.toArray }
  heap := heap
  slotsUsed := slotsUsed
  threads := #[{ frames := .invoking theMethod args0 :: below }]
def below0 : List Frame := [.native { method := ⟨0, 0⟩, args := #[] }]
def about1 : State := aboutOver below0
def p0 : Program := .bare "" "" ""
def e0 : Env := launch0.env 0 0 0
theorem w_frames : about1.frames = Frame.invoking theMethod args0 :: below0 := rfl
set_option maxRecDepth 65536 in
theorem w_args : argsFit about1.vm theMethod args0 = true := by decide +kernel
set_option maxRecDepth 65536 in
theorem w_heap : heapFits about1 = true := by decide +kernel
set_option maxRecDepth 65536 in
theorem w_runnable : about1.curStatus? = some .runnable := by decide +kernel
set_option maxRecDepth 65536 in
theorem w_alone : about1.alone = true := by decide +kernel
set_option maxRecDepth 65536 in
theorem w_named : about1.methodNamed? x = some theMethod := by decide +kernel
set_option maxRecDepth 65536 in
theorem w_hears : about1.hears theMethod below0 = true := by decide +kernel
set_option maxRecDepth 65536 in
theorem w_ripe : about1.ripe theMethod args0 below0 = true := by decide +kernel
theorem w_running : about1.status = .running := rfl
set_option maxRecDepth 65536 in
theorem w_room : about1.hasRoom e0.platform room_1 = true :=
  launch0.hasRoom_least _ room_1 (by decide +kernel) (by decide +kernel) (by decide +kernel) (by decide +kernel) (by decide +kernel) (by decide +kernel)
theorem allAtoms_all (ts : List Jvm.Cond) (a : Array Jvm.Value) (st : Jvm.State) : (allAtoms ts).before a st = ts.all (fun c => c.before a st) := by
  induction ts with
  | nil => rfl
  | cons c t ih =>
    show (Jvm.Cond.and c (allAtoms t)).before a st = _
    rw [Jvm.Cond.before_and, ih, List.all_cons]
def words1 : List Jvm.Cond := Jvm.Cond.code x code maxLocals ret :: tables_1
/-- a 'code' word, met by the world's own term for the bytes: nothing is compared byte by byte -/
theorem code_word {y : MethodName} {bytes : ByteArray} {mx : Nat} {rt : Option FieldType} {a : Array Value} {s : State} {m : MethodId} {meth : Method} {c : Code} (h1 : s.methodNamed? y = some m) (h2 : s.vm.method? m = some meth) (h3 : meth.code = some c) (h4 : c.code = bytes)
    (h5 : (c.maxLocals == mx && c.exceptionTable.isEmpty && decide (c.maxStack ≤ mostOperands) && decide (meth.sig.returnType = rt) && !meth.locks && decide (parseMethodDescriptor y.desc = some meth.sig)) = true) : (Jvm.Cond.code y bytes mx rt).before a s = true := by
  simp only [Bool.and_eq_true, beq_iff_eq, Bool.not_eq_true', decide_eq_true_eq] at h5
  obtain ⟨⟨⟨⟨⟨g1, g2⟩, g3⟩, g4⟩, g5⟩, g6⟩ := h5
  simp [Cond.before, Cond.holds, Cond.value, h1, h2, h3, h4, g1, g2, g3, g4, g5, g6]
def isCode : Jvm.Cond → Bool
  | .code _ _ _ _ => true
  | _ => false
theorem all_split {L : List Jvm.Cond} {P : Jvm.Cond → Bool} (h1 : L.all (fun c => isCode c || P c) = true) (h2 : ∀ c ∈ L.filter isCode, P c = true) : L.all P = true := by
  refine List.all_eq_true.mpr fun c hc => ?_
  have h := List.all_eq_true.mp h1 c hc
  rcases Bool.eq_false_or_eq_true (isCode c) with hi | hi
  · exact h2 c (List.mem_filter.mpr ⟨hc, hi⟩)
  · simpa [hi] using h
set_option maxRecDepth 65536 in
theorem w_c0 : (Jvm.Cond.code x code maxLocals ret).before args0 about1 = true := code_word (m := ⟨1, 1⟩) (meth := k1m1) (c := k1c1) (by decide +kernel) rfl rfl rfl (by decide +kernel)
set_option maxRecDepth 65536 in
theorem w_c1 : (Jvm.Cond.code ({ cls := "com/example/thicket/thicket/PackedLevelGrownVolumePinLaw", name := "mode", desc := "(ZII)I" } : Jvm.MethodName) method_3_code (3 : Nat) (Option.some Jvm.ClassFile.FieldType.int)).before args0 about1 = true := code_word (m := ⟨1, 2⟩) (meth := k1m2) (c := k1c2) (by decide +kernel) rfl rfl rfl (by decide +kernel)
set_option maxRecDepth 65536 in
theorem w_c2 : (Jvm.Cond.code ({ cls := "com/example/thicket/thicket/PackedLevelGrownVolumePinLaw", name := "fill", desc := "(JI[DII[DI)J" } : Jvm.MethodName) method_4_code (14 : Nat) (Option.some Jvm.ClassFile.FieldType.long)).before args0 about1 = true := code_word (m := ⟨1, 3⟩) (meth := k1m3) (c := k1c3) (by decide +kernel) rfl rfl rfl (by decide +kernel)
set_option maxRecDepth 65536 in
theorem w_c3 : (Jvm.Cond.code ({ cls := "java/lang/Math", name := "min", desc := "(II)I" } : Jvm.MethodName) jdk_29_method_69_code (2 : Nat) (Option.some Jvm.ClassFile.FieldType.int)).before args0 about1 = true := code_word (m := ⟨2, 2⟩) (meth := k2m2) (c := k2c2) (by decide +kernel) rfl rfl rfl (by decide +kernel)
set_option maxRecDepth 65536 in
theorem w_c4 : (Jvm.Cond.code ({ cls := "java/lang/Math", name := "max", desc := "(II)I" } : Jvm.MethodName) jdk_29_method_65_code (2 : Nat) (Option.some Jvm.ClassFile.FieldType.int)).before args0 about1 = true := code_word (m := ⟨2, 1⟩) (meth := k2m1) (c := k2c1) (by decide +kernel) rfl rfl rfl (by decide +kernel)
set_option maxRecDepth 65536 in
theorem w_c5 : (Jvm.Cond.code ({ cls := "com/example/thicket/thicket/PackedLevel", name := "grownVolume", desc := "([DI[D)D" } : Jvm.MethodName) prog_62_method_14_code (7 : Nat) (Option.some Jvm.ClassFile.FieldType.double)).before args0 about1 = true := code_word (m := ⟨3, 0⟩) (meth := k3m0) (c := k3c0) (by decide +kernel) rfl rfl rfl (by decide +kernel)
def codes1 : List Jvm.Cond := [Jvm.Cond.code x code maxLocals ret, Jvm.Cond.code ({ cls := "com/example/thicket/thicket/PackedLevelGrownVolumePinLaw", name := "mode", desc := "(ZII)I" } : Jvm.MethodName) method_3_code (3 : Nat) (Option.some Jvm.ClassFile.FieldType.int), Jvm.Cond.code ({ cls := "com/example/thicket/thicket/PackedLevelGrownVolumePinLaw", name := "fill", desc := "(JI[DII[DI)J" } : Jvm.MethodName) method_4_code (14 : Nat) (Option.some Jvm.ClassFile.FieldType.long), Jvm.Cond.code ({ cls := "java/lang/Math", name := "min", desc := "(II)I" } : Jvm.MethodName) jdk_29_method_69_code (2 : Nat) (Option.some Jvm.ClassFile.FieldType.int), Jvm.Cond.code ({ cls := "java/lang/Math", name := "max", desc := "(II)I" } : Jvm.MethodName) jdk_29_method_65_code (2 : Nat) (Option.some Jvm.ClassFile.FieldType.int), Jvm.Cond.code ({ cls := "com/example/thicket/thicket/PackedLevel", name := "grownVolume", desc := "([DI[D)D" } : Jvm.MethodName) prog_62_method_14_code (7 : Nat) (Option.some Jvm.ClassFile.FieldType.double)]
set_option maxRecDepth 65536 in
theorem codes_eq : words1.filter isCode = codes1 := rfl
theorem w_codes : ∀ c ∈ words1.filter isCode, c.before args0 about1 = true := by
  rw [codes_eq]
  intro c hc
  simp only [codes1, List.mem_cons, List.not_mem_nil, or_false] at hc
  rcases hc with rfl | rfl | rfl | rfl | rfl | rfl
  · exact w_c0
  · exact w_c1
  · exact w_c2
  · exact w_c3
  · exact w_c4
  · exact w_c5
set_option maxRecDepth 65536 in
theorem w_t1 : (words1.take 24).all (fun c => isCode c || c.before args0 about1) = true := by decide +kernel
set_option maxRecDepth 65536 in
theorem w_t2 : (words1.drop 24).all (fun c => isCode c || c.before args0 about1) = true := by decide +kernel
theorem w_tables : (allAtoms (Jvm.Cond.code x code maxLocals ret :: tables_1)).before args0 about1 = true := by
  rw [allAtoms_all]
  show words1.all (fun c => c.before args0 about1) = true
  refine all_split ?_ w_codes
  rw [← List.take_append_drop 24 words1, List.all_append, w_t1, w_t2]
  rfl
set_option maxRecDepth 65536 in
theorem w_case : (Jvm.Cond.and given_1 narrow_1).before args0 about1 = true := by decide +kernel
theorem w_applies : (headSpec (Jvm.Cond.code x code maxLocals ret :: tables_1) room_1).applies x e0.platform about1 = true :=
  (Spec.applies_iff w_frames).mpr ⟨w_running, w_runnable, w_alone, w_named, w_hears, w_ripe, w_room, w_tables⟩
theorem atStart : AtStart classFile x code maxLocals ret World_1 tables_1 room_1 Calls_1 rest_1 Pre_1 launch0 p0 e0 about1 theMethod args0 below0 :=
  ⟨lists_1, trivial, launch0.admits_env _ _ _, launch0.least_env, fairChoices_fair.cas, fairChoices_fair.clock, w_frames, w_args, w_heap, w_applies, trivial, trivial, w_case⟩
end start1
theorem witness_1 : WitnessClaimed_1 := ⟨start1.p0, start1.e0, start1.about1, start1.theMethod, start1.args0, start1.below0, start1.atStart⟩
end Jvm.Pilot.@@N@@
