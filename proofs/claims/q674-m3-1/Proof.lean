import JvmDerived
import JvmDerived.Pilot.@@N@@Statement
import JvmDerived.Pilot.@@N@@Code
set_option linter.unusedVariables false
set_option linter.unusedSimpArgs false
namespace Jvm.RoadKit
open Sem ClassFile Op Lib Jvm.Stand Jvm.Free Jvm.LawKit
section Own
/-- from here the run comes to an end of which P holds -/
def own_Go (p : Program) (e : Env) (below : List Frame) (P : Outcome → State → Prop) (t : State) : Prop :=
  ∃ s₂ o, Steps p.tables e below t s₂ ∧ s₂.status = .running ∧ Ended s₂ below o ∧ P o s₂
variable {p : Program} {l : Launch} {e : Env} {R : Room} {s : State} {m : MethodId} {args : Array Value} {below : List Frame} {meth : Method} {c : Code} {T : State} {locs : List Loc} {cells slots : Nat}
theorem own_Go.st {P : Outcome → State → Prop} {t t' : State} (h : ∀ target, Steps p.tables e below t' target → Steps p.tables e below t target) (k : own_Go p e below P t') : own_Go p e below P t := by
  obtain ⟨a, b, h1, h2⟩ := k
  exact ⟨a, b, h _ h1, h2⟩
variable {C N : Nat} {Q : Option Value → Heap → List Loc → Prop}
theorem own_ret {v : Option Value} {g : JFrame} (X : Stand p l e R s m args below meth c T locs cells slots) (hlk : meth.locks = false) (hv : meth.sig.returnType = none → v = none)
    (hl : ∀ fs : List Frame, (∀ (f : JFrame) (acts : List Action), f.method = m → f.locked = none → f.entered = [] → (doReturn e (T.setTop f) acts v).1 = T.setFrames fs) → Steps p.tables e below (T.setTop g) (T.setFrames fs))
    (hc : cells ≤ C) (hn : slots ≤ N) (q : Q v T.heap locs) : own_Go p e below (fun o U' => ∃ v L, o = .returned v ∧ Q v U'.heap L ∧ FrameEnd s o U' L C N) (T.setTop g) := by
  obtain ⟨fs, hr, hrun, hended, hW, hsame⟩ := X.leave (v := v) hv hlk
  exact ⟨_, _, hl fs hr, hrun, hended, _, _, rfl, q, ⟨_, rfl⟩, hW, hsame.mono hc hn⟩
theorem own_retI {pc : Nat} {Ls : Array Slot} {z : Int32} {rest : List Value} (X : Stand p l e R s m args below meth c T locs cells slots) (hx : p.tables.exec = Jvm.exec) (hlk : meth.locks = false) (hret : meth.sig.returnType = some .int) (hd : decode c.code pc = .ok (.ireturn, 1))
    (hc : cells ≤ C) (hn : slots ≤ N) (q : Q (some (.int z)) T.heap locs) : own_Go p e below (fun o U' => ∃ v L, o = .returned v ∧ Q v U'.heap L ∧ FrameEnd s o U' L C N) (T.setTop (mkF m pc Ls (.int z :: rest))) :=
  own_ret X hlk (fun h => by rw [hret] at h; cases h) (fun fs hr => retOut X hx hret rfl (Or.inl ⟨rfl, Or.inl rfl, z, rfl⟩) hd hr) hc hn q
theorem own_retN {t : FieldType} {pc : Nat} {Ls : Array Slot} {z : Int32} {rest : List Value} (X : Stand p l e R s m args below meth c T locs cells slots) (hx : p.tables.exec = Jvm.exec) (hlk : meth.locks = false) (hret : meth.sig.returnType = some t) (ht : t = .boolean ∨ t = .byte ∨ t = .char ∨ t = .short) (hz : nar t z = z) (hd : decode c.code pc = .ok (.ireturn, 1))
    (hc : cells ≤ C) (hn : slots ≤ N) (q : Q (some (.int z)) T.heap locs) : own_Go p e below (fun o U' => ∃ v L, o = .returned v ∧ Q v U'.heap L ∧ FrameEnd s o U' L C N) (T.setTop (mkF m pc Ls (.int z :: rest))) :=
  own_ret X hlk (fun h => by rw [hret] at h; cases h) (fun fs hr => retN X hx (z := z) hret ht hd (by rw [hz]; exact hr)) hc hn q
theorem own_retZ {pc : Nat} {Ls : Array Slot} {z : Int32} {rest : List Value} (X : Stand p l e R s m args below meth c T locs cells slots) (hx : p.tables.exec = Jvm.exec) (hlk : meth.locks = false) (hret : meth.sig.returnType = some .boolean) (hz : z = 0 ∨ z = 1) (hd : decode c.code pc = .ok (.ireturn, 1))
    (hc : cells ≤ C) (hn : slots ≤ N) (q : Q (some (.int z)) T.heap locs) : own_Go p e below (fun o U' => ∃ v L, o = .returned v ∧ Q v U'.heap L ∧ FrameEnd s o U' L C N) (T.setTop (mkF m pc Ls (.int z :: rest))) :=
  own_retN X hx hlk hret (Or.inl rfl) (by rcases hz with rfl | rfl <;> rfl) hd hc hn q
theorem own_retJ {pc : Nat} {Ls : Array Slot} {z : Int64} {rest : List Value} (X : Stand p l e R s m args below meth c T locs cells slots) (hx : p.tables.exec = Jvm.exec) (hlk : meth.locks = false) (hret : meth.sig.returnType = some .long) (hd : decode c.code pc = .ok (.lreturn, 1))
    (hc : cells ≤ C) (hn : slots ≤ N) (q : Q (some (.long z)) T.heap locs) : own_Go p e below (fun o U' => ∃ v L, o = .returned v ∧ Q v U'.heap L ∧ FrameEnd s o U' L C N) (T.setTop (mkF m pc Ls (.long z :: rest))) :=
  own_ret X hlk (fun h => by rw [hret] at h; cases h) (fun fs hr => retOut X hx hret rfl (Or.inr (Or.inl ⟨rfl, rfl, z, rfl⟩)) hd hr) hc hn q
theorem own_retD {pc : Nat} {Ls : Array Slot} {z : UInt64} {rest : List Value} (X : Stand p l e R s m args below meth c T locs cells slots) (hx : p.tables.exec = Jvm.exec) (hlk : meth.locks = false) (hret : meth.sig.returnType = some .double) (hd : decode c.code pc = .ok (.dreturn, 1))
    (hc : cells ≤ C) (hn : slots ≤ N) (q : Q (some (.double z)) T.heap locs) : own_Go p e below (fun o U' => ∃ v L, o = .returned v ∧ Q v U'.heap L ∧ FrameEnd s o U' L C N) (T.setTop (mkF m pc Ls (.double z :: rest))) :=
  own_ret X hlk (fun h => by rw [hret] at h; cases h) (fun fs hr => retOut X hx hret rfl (Or.inr (Or.inr (Or.inl ⟨rfl, rfl, z, rfl⟩))) hd hr) hc hn q
theorem own_retA {t : FieldType} {pc : Nat} {Ls : Array Slot} {w : Value} {rest : List Value} (X : Stand p l e R s m args below meth c T locs cells slots) (hx : p.tables.exec = Jvm.exec) (hlk : meth.locks = false) (hret : meth.sig.returnType = some t) (ht : t.isReference = true) (hw : w.isRef = true) (hd : decode c.code pc = .ok (.areturn, 1))
    (hc : cells ≤ C) (hn : slots ≤ N) (q : Q (some w) T.heap locs) : own_Go p e below (fun o U' => ∃ v L, o = .returned v ∧ Q v U'.heap L ∧ FrameEnd s o U' L C N) (T.setTop (mkF m pc Ls (w :: rest))) :=
  own_ret X hlk (fun h => by rw [hret] at h; cases h) (fun fs hr => retOut X hx hret (by rcases ref_cases hw with rfl | ⟨z, rfl⟩ <;> cases t <;> rfl) (Or.inr (Or.inr (Or.inr (Or.inr ⟨rfl, ht, hw⟩)))) hd hr) hc hn q
theorem own_retV {pc : Nat} {Ls : Array Slot} (X : Stand p l e R s m args below meth c T locs cells slots) (hx : p.tables.exec = Jvm.exec) (hlk : meth.locks = false) (hret : meth.sig.returnType = none) (hd : decode c.code pc = .ok (.return_, 1))
    (hc : cells ≤ C) (hn : slots ≤ N) (q : Q none T.heap locs) : own_Go p e below (fun o U' => ∃ v L, o = .returned v ∧ Q v U'.heap L ∧ FrameEnd s o U' L C N) (T.setTop (mkF m pc Ls [])) :=
  own_ret X hlk (fun _ => rfl) (fun fs hr => X.returnOut hx hret hd hr) hc hn q
theorem own_retW {vm0 : Vm} {k0 : Nat} {v : Option Value} {g : JFrame} (X : Stand p l e R (s.setVm vm0) m args below meth c T locs cells slots) (hlk : meth.locks = false) (hv : meth.sig.returnType = none → v = none) (hS : s.Since vm0 k0) (hk : k0 ≤ T.heap.size)
    (hl : ∀ fs : List Frame, (∀ (f : JFrame) (acts : List Action), f.method = m → f.locked = none → f.entered = [] → (doReturn e (T.setTop f) acts v).1 = T.setFrames fs) → Steps p.tables e below (T.setTop g) (T.setFrames fs))
    (hc : cells ≤ C) (hn : slots ≤ N) (q : Q v T.heap locs) : own_Go p e below (fun o U' => ∃ v L, o = .returned v ∧ Q v U'.heap L ∧ ReturnedEndW s o U' L C N) (T.setTop g) := by
  obtain ⟨fs, hr, hrun, hended, h1, h2, h3, h4⟩ := X.leaveW hS hk (v := v) hv hlk
  exact ⟨_, _, hl fs hr, hrun, hended, _, _, rfl, q, h1, h2, h3, h4.mono hc hn⟩
theorem own_retWV {vm0 : Vm} {k0 : Nat} {pc : Nat} {Ls : Array Slot} (X : Stand p l e R (s.setVm vm0) m args below meth c T locs cells slots) (hx : p.tables.exec = Jvm.exec) (hlk : meth.locks = false) (hret : meth.sig.returnType = none) (hS : s.Since vm0 k0) (hk : k0 ≤ T.heap.size) (hd : decode c.code pc = .ok (.return_, 1))
    (hc : cells ≤ C) (hn : slots ≤ N) (q : Q none T.heap locs) : own_Go p e below (fun o U' => ∃ v L, o = .returned v ∧ Q v U'.heap L ∧ ReturnedEndW s o U' L C N) (T.setTop (mkF m pc Ls [])) :=
  own_retW X hlk (fun _ => rfl) hS hk (fun fs hr => X.returnOut hx hret hd hr) hc hn q
theorem own_retWZ {vm0 : Vm} {k0 : Nat} {pc : Nat} {Ls : Array Slot} {z : Int32} {rest : List Value} (X : Stand p l e R (s.setVm vm0) m args below meth c T locs cells slots) (hx : p.tables.exec = Jvm.exec) (hlk : meth.locks = false) (hret : meth.sig.returnType = some .boolean) (hS : s.Since vm0 k0) (hk : k0 ≤ T.heap.size) (hz : z = 0 ∨ z = 1) (hd : decode c.code pc = .ok (.ireturn, 1))
    (hc : cells ≤ C) (hn : slots ≤ N) (q : Q (some (.int z)) T.heap locs) : own_Go p e below (fun o U' => ∃ v L, o = .returned v ∧ Q v U'.heap L ∧ ReturnedEndW s o U' L C N) (T.setTop (mkF m pc Ls (.int z :: rest))) :=
  own_retW X hlk (fun h => by rw [hret] at h; cases h) hS hk (fun fs hr => retN X hx (z := z) (t := .boolean) hret (Or.inl rfl) hd (by rw [show nar .boolean z = z by rcases hz with rfl | rfl <;> rfl]; exact hr)) hc hn q
/-- an array: its length, and what each place holds -/
def own_Ar (Z : State) (h : Heap) (a : Addr) (ty : FieldType) (n : Nat) (f : Nat → Value) : Prop := ∃ c : Cell, Arr Z h a c ty ∧ c.slots.size = n ∧ ∀ j, j < n → c.slots[j]? = some (f j)
section OwnAr
variable {Z : State} {h h' : Heap} {a b : Addr} {ty : FieldType} {n : Nat} {f f' : Nat → Value} {ws : List Addr}
theorem own_Ar.lt (F : own_Ar Z h a ty n f) : a < h.size := by obtain ⟨c, A, -⟩ := F; exact A.lt
theorem own_Ar.ext (F : own_Ar Z h a ty n f) (E : Ext h h') : own_Ar Z h' a ty n f := by obtain ⟨c, A, r⟩ := F; exact ⟨c, A.ext E, r⟩
theorem own_Ar.other {sl : Nat} {v : Value} (F : own_Ar Z h b ty n f) (W : Wr h h' a sl v) (q : b ≠ a) : own_Ar Z h' b ty n f := by obtain ⟨c, A, r⟩ := F; exact ⟨c, A.other W q, r⟩
theorem own_Ar.keep (F : own_Ar Z h a ty n f) (K : Keep h h' ws) (q : a ∉ ws) : own_Ar Z h' a ty n f := by obtain ⟨c, A, r⟩ := F; exact ⟨c, ⟨K.2.1 a c A.1 q, A.2⟩, r⟩
theorem own_Ar.congr (F : own_Ar Z h a ty n f) (q : ∀ j, j < n → f j = f' j) : own_Ar Z h a ty n f' := by obtain ⟨c, A, S, r⟩ := F; exact ⟨c, A, S, fun j hj => by rw [← q j hj]; exact r j hj⟩
theorem own_Ar.new {cA : ClassId} {z : Int32} (A : Arr Z h a (newA cA ty z) ty) (hz : z.toInt = (n : Int)) : own_Ar Z h a ty n (fun _ => defaultValue ty) := by
  have e : z.toNatClampNeg = n := by show z.toInt.toNat = n; omega
  exact ⟨_, A, by rw [sz_new, e], fun j hj => by simp [newA, e, hj]⟩
theorem own_Ar.set {i : Nat} {v : Value} (F : own_Ar Z h a ty n f) (W : Wr h h' a i v) : own_Ar Z h' a ty n (fun j => if j = i then v else f j) := by
  obtain ⟨c, A, S, r⟩ := F
  refine ⟨c.setSlot i v, A.same W, by rw [sz_set, S], fun j hj => ?_⟩
  show (c.slots.setIfInBounds i v)[j]? = _
  by_cases q : j = i
  · subst q; simp [S, hj]
  · rw [Array.getElem?_setIfInBounds_ne (Ne.symm q), r j hj]; simp [q]
theorem own_inb {c : Cell} {j : Int32} {i : Nat} (S : c.slots.size = n) (hj : j.toInt = (i : Int)) (hi : i < n) : ¬ (j < 0 ∨ c.slots.size ≤ j.toNatClampNeg) := by
  have e : j.toNatClampNeg = i := by show j.toInt.toNat = i; omega
  rw [e, S, Int32.lt_iff_toInt_lt, hj, show (0 : Int32).toInt = 0 by decide]
  omega
theorem own_clamp {j : Int32} {i : Nat} (hj : j.toInt = (i : Int)) : j.toNatClampNeg = i := by show j.toInt.toNat = i; omega
theorem own_alen (X : Stand p l e R s m args below meth c T locs cells slots) (hx : p.tables.exec = Jvm.exec) (hZ : Z.Warmed39 s.vm) (eT : T.heap = h) (F : own_Ar Z h a ty n f) {z : Int32} (hz : z.toInt = (n : Int))
    {g : JFrame} (hg : g.method = m) {rest : List Value} (hs : g.stack = .ref a :: rest) (hd : decode c.code g.pc = .ok (.arraylength, 1)) (target : State)
    (hr : Steps p.tables e below (T.setTop { g with pc := g.pc + 1, stack := .int z :: rest }) target) : Steps p.tables e below (T.setTop g) target := by
  obtain ⟨cl, A, S, -⟩ := F
  refine X.arraylength hx (by rw [eT]; exact A.1) (State.isArrayOf_alike hZ.alike A.2.1) hg hs hd target ?_
  have q : cl.slots.size.toInt32 = z := by
    rw [← Int32.toInt_inj, S, hz]
    have := z.toInt_lt
    exact len_toInt (by omega)
  rw [q]; exact hr
theorem own_dld (X : Stand p l e R s m args below meth c T locs cells slots) (hx : p.tables.exec = Jvm.exec) (hZ : Z.Warmed39 s.vm) (eT : T.heap = h) (F : own_Ar Z h a .double n f) {j : Int32} {i : Nat} (hj : j.toInt = (i : Int)) (hi : i < n) {v : Value} (hv : f i = v)
    {g : JFrame} (hg : g.method = m) {rest : List Value} (hs : g.stack = .int j :: .ref a :: rest) (hd : decode c.code g.pc = .ok (.daload, 1)) (target : State)
    (hr : Steps p.tables e below (T.setTop { g with pc := g.pc + 1, stack := v :: rest }) target) : Steps p.tables e below (T.setTop g) target := by
  obtain ⟨cl, A, S, H⟩ := F
  exact X.daload hx (by rw [eT]; exact A.1) (State.isArrayOf_alike hZ.alike A.2.1) A.2.2 (own_inb S hj hi) (by rw [own_clamp hj, H i hi, hv]) hg hs hd target hr
theorem own_lld (X : Stand p l e R s m args below meth c T locs cells slots) (hx : p.tables.exec = Jvm.exec) (hZ : Z.Warmed39 s.vm) (eT : T.heap = h) (F : own_Ar Z h a .long n f) {j : Int32} {i : Nat} (hj : j.toInt = (i : Int)) (hi : i < n) {v : Value} (hv : f i = v)
    {g : JFrame} (hg : g.method = m) {rest : List Value} (hs : g.stack = .int j :: .ref a :: rest) (hd : decode c.code g.pc = .ok (.laload, 1)) (target : State)
    (hr : Steps p.tables e below (T.setTop { g with pc := g.pc + 1, stack := v :: rest }) target) : Steps p.tables e below (T.setTop g) target := by
  obtain ⟨cl, A, S, H⟩ := F
  exact X.laload hx (by rw [eT]; exact A.1) (State.isArrayOf_alike hZ.alike A.2.1) A.2.2 (own_inb S hj hi) (by rw [own_clamp hj, H i hi, hv]) hg hs hd target hr
theorem own_dst (X : Stand p l e R s m args below meth c T locs cells slots) (hx : p.tables.exec = Jvm.exec) (hZ : Z.Warmed39 s.vm) (eT : T.heap = h) (F : own_Ar Z h a .double n f) {j : Int32} {i : Nat} (hj : j.toInt = (i : Int)) (hi : i < n) {x : UInt64}
    {g : JFrame} (hg : g.method = m) {rest : List Value} (hs : g.stack = .double x :: .int j :: .ref a :: rest) (hd : decode c.code g.pc = .ok (.dastore, 1)) :
    ∃ T' h', Stand p l e R s m args below meth c T' (locs ++ [⟨a, i⟩]) cells slots ∧ T'.heap = h' ∧ Wr h h' a i (.double x) ∧ ∀ target, Steps p.tables e below (T'.setTop { g with pc := g.pc + 1, stack := rest }) target → Steps p.tables e below (T.setTop g) target := by
  obtain ⟨cl, A, S, H⟩ := F
  have q := stD X hx hZ eT A (x := x) (own_inb S hj hi) hg hs hd
  rw [own_clamp hj] at q
  exact q
theorem own_lst (X : Stand p l e R s m args below meth c T locs cells slots) (hx : p.tables.exec = Jvm.exec) (hZ : Z.Warmed39 s.vm) (eT : T.heap = h) (F : own_Ar Z h a .long n f) {j : Int32} {i : Nat} (hj : j.toInt = (i : Int)) (hi : i < n) {x : Int64}
    {g : JFrame} (hg : g.method = m) {rest : List Value} (hs : g.stack = .long x :: .int j :: .ref a :: rest) (hd : decode c.code g.pc = .ok (.lastore, 1)) :
    ∃ T' h', Stand p l e R s m args below meth c T' (locs ++ [⟨a, i⟩]) cells slots ∧ T'.heap = h' ∧ Wr h h' a i (.long x) ∧ ∀ target, Steps p.tables e below (T'.setTop { g with pc := g.pc + 1, stack := rest }) target → Steps p.tables e below (T.setTop g) target := by
  obtain ⟨cl, A, S, H⟩ := F
  have q := stJ X hx hZ eT A (x := x) (own_inb S hj hi) hg hs hd
  rw [own_clamp hj] at q
  exact q
end OwnAr
theorem own_stakeep {Z : State} {h h' : Heap} {C n d : String} {v : Value} {ws : List Addr} (F : Sta Z h C n d v) (K : Keep h h' ws) (q : ∀ x ∈ ws, ∀ c : Cell, h[x]? = some c → c.vm.isStatics = false) : Sta Z h' C n d v := by
  obtain ⟨cf, i, k, f, st, cell, h1, h2, h3, h4, h5, h6, h7⟩ := F
  exact ⟨cf, i, k, f, st, cell, h1, h2, h3, h4, K.2.1 st cell h5 (fun hm => by rw [q st hm cell h5] at h6; cases h6), h6, h7⟩
end Own
end Jvm.RoadKit
namespace Jvm.Pilot.@@N@@
open Jvm Jvm.ClassFile Sem Op Lib Jvm.Free Jvm.Stand Jvm.LawKit Jvm.RoadKit Bundle Jvm.Pilot.@@N@@.Jvm.D
open Jvm.FP in
theorem own_negz (x : UInt64) : FP.dcmp x 9223372036854775808 = FP.dcmp x 0 := by
  show Core.order (Core.val64 x) (Core.val64 Core.dzeroNeg) = Core.order (Core.val64 x) (Core.val64 Core.dconst0)
  rw [Core.val64_dzeroNeg, Core.val64_dconst0]
  cases Core.val64 x <;> simp [Core.order, Core.signed, Core.inUnits]
open Jvm.FP in
theorem own_negz' (x : UInt64) : FP.dcmp 9223372036854775808 x = FP.dcmp 0 x := by
  show Core.order (Core.val64 Core.dzeroNeg) (Core.val64 x) = Core.order (Core.val64 Core.dconst0) (Core.val64 x)
  rw [Core.val64_dzeroNeg, Core.val64_dconst0]
  cases Core.val64 x <;> simp [Core.order, Core.signed, Core.inUnits]
/-- the double of the whole number a, or, for nought, the other nought -/
def own_like (x : UInt64) (a : Int64) : Prop := x = FP.l2d a ∨ (a = 0 ∧ x = 9223372036854775808)
theorem own_like_cmp {x y : UInt64} {a b : Int64} (hx : own_like x a) (hy : own_like y b) (ha : B53 a) (hb : B53 b) (o : CmpOp) : cmpValue (FP.dcmp x y) o = lcmpW a b := by
  rcases hx with rfl | ⟨rfl, rfl⟩ <;> rcases hy with rfl | ⟨rfl, rfl⟩
  · exact dcmpV_w ha hb o
  · rw [own_negz, ← l2d_zero]; exact dcmpV_w ha hb o
  · rw [own_negz', ← l2d_zero]; exact dcmpV_w ha hb o
  · rw [own_negz, own_negz', ← l2d_zero]; exact dcmpV_w ha hb o
theorem own_like_nn {x : UInt64} {a : Int64} (h : own_like x a) : Jvm.Free.Fl.NoNaN64 x := by
  rcases h with rfl | ⟨-, rfl⟩
  · exact nn_w rfl
  · decide
theorem own_like_zero : own_like FP.dconst0 0 := Or.inl l2d_zero.symm
theorem own_like_negz : own_like 9223372036854775808 0 := Or.inr ⟨rfl, rfl⟩
theorem own_like_fin {x : UInt64} {a : Int64} (h : own_like x a) : ¬ 0 < cmpValue (FP.dcmp (x &&& 0x7fffffffffffffff) 9218868437227405311) .g := by
  have q : FP.dcmp (x &&& 0x7fffffffffffffff) 9218868437227405311 = some .lt ∨ FP.dcmp (x &&& 0x7fffffffffffffff) 9218868437227405311 = some .eq := by
    rcases h with rfl | ⟨-, rfl⟩
    · exact (Jvm.FP.Core.le_max (Jvm.FP.Core.l2d_notNaN a)).mpr (Jvm.FP.Core.l2d_fin a)
    · left; decide +kernel
  rcases q with q | q <;> rw [q] <;> decide
theorem own_i64 (x : Int32) : B53 x.toInt64 := by
  have h := rng32 x
  have e := c_i2l x
  exact ⟨by omega, by omega⟩
theorem own_lt64 (x y : Int32) : x.toInt64 < y.toInt64 ↔ x < y := by
  rw [Int64.lt_iff_toInt_lt, Int32.lt_iff_toInt_lt, c_i2l, c_i2l]
theorem own_mm (x y : Int32) : ¬ (if x < y then y else x) < (if y < x then y else x) := by
  rw [Int32.lt_iff_toInt_lt]
  have h1 : x < y ↔ x.toInt < y.toInt := Int32.lt_iff_toInt_lt
  have h2 : y < x ↔ y.toInt < x.toInt := Int32.lt_iff_toInt_lt
  by_cases p : x < y <;> by_cases q : y < x <;> simp only [p, q, if_true, if_false] <;> rw [h1] at p <;> rw [h2] at q <;> omega
/-- what contains returns -/
def own_cv (a1 a2 a3 a4 b1 b2 b3 b4 : Int64) : Int32 := if b1 < a1 then 0 else if a3 < b3 then 0 else if b2 < a2 then 0 else if a4 < b4 then 0 else 1
theorem own_cv01 (a1 a2 a3 a4 b1 b2 b3 b4 : Int64) : own_cv a1 a2 a3 a4 b1 b2 b3 b4 = 0 ∨ own_cv a1 a2 a3 a4 b1 b2 b3 b4 = 1 := by
  unfold own_cv
  by_cases h1 : b1 < a1
  · simp [h1]
  by_cases h2 : a3 < b3
  · simp [h1, h2]
  by_cases h3 : b2 < a2
  · simp [h1, h2, h3]
  by_cases h4 : a4 < b4
  · simp [h1, h2, h3, h4]
  · simp [h1, h2, h3, h4]
theorem own_ef1 (m : MethodId) (x0 : Int32) (x1 : Int32) : entryFrame m #[(.int x0), (.int x1)] 2 = mkF m 0 #[.val (.int x0), .val (.int x1)] [] := by first | (simp [entryFrame, mkF, argsToLocals, Value.category]; done) | rfl
theorem own_d_jdk_29_65_0 : decode jdk_29_method_65_code 0 = .ok (.iload_n 0, 1) := by decide +kernel
theorem own_d_jdk_29_65_1 : decode jdk_29_method_65_code 1 = .ok (.iload_n 1, 1) := by decide +kernel
theorem own_d_jdk_29_65_2 : decode jdk_29_method_65_code 2 = .ok (.if_icmp .lt 7, 3) := by decide +kernel
theorem own_d_jdk_29_65_9 : decode jdk_29_method_65_code 9 = .ok (.iload_n 1, 1) := by decide +kernel
theorem own_d_jdk_29_65_10 : decode jdk_29_method_65_code 10 = .ok (.ireturn, 1) := by decide +kernel
theorem own_d_jdk_29_65_5 : decode jdk_29_method_65_code 5 = .ok (.iload_n 0, 1) := by decide +kernel
theorem own_d_jdk_29_65_6 : decode jdk_29_method_65_code 6 = .ok (.goto 4, 3) := by decide +kernel
def own_Q_own_max (Z : State) (xa xb : Int32) (h0 : Heap) (n0 : Nat) (v : Option Value) (h : Heap) (L : List Loc) : Prop := v = some (.int (if xa < xb then xb else xa)) ∧ Fr n0 L ∧ h = h0
set_option maxRecDepth 65536 in
set_option maxHeartbeats 40000000 in
theorem own_max (l : Launch) (Z : State) (a0 : Array Value) (hw : ∀ d ∈ tables_1, d.before a0 Z = true) (ws : List Jvm.Cond) (xa xb : Int32) (h0 : Heap) (n0 : Nat) (Z0 : n0 ≤ h0.size)  :
    MetFree l (⟨"java/lang/Math", "max", "(II)I"⟩ : MethodName) (head1 (Jvm.Cond.code (⟨"java/lang/Math", "max", "(II)I"⟩ : MethodName) jdk_29_method_65_code 2 (some .int) :: ws) ({ frames := 0, cells := 0, slots := 0, locals := 0 } : Room)) (fun av_ U => av_ = #[(.int xa), (.int xb)] ∧ Z.Warmed39 U.vm ∧ U.heap = h0) (fun _ _ _ _ _ => True) (fun _ U o U' => ∃ v L, o = .returned v ∧ own_Q_own_max Z xa xb h0 n0 v U'.heap L ∧ FrameEnd U o U' L ({ frames := 0, cells := 0, slots := 0, locals := 0 } : Room).cells ({ frames := 0, cells := 0, slots := 0, locals := 0 } : Room).slots) := by
  refine MetFree.of_bodySF (by decide +kernel) hisR ?_
  intro p e s m args below meth c s₁ Bd hml0 hP hK
  obtain ⟨rfl, hZ, hh⟩ := hP
  have hx := Bd.exec
  have hby := Bd.bytes
  have hml : c.maxLocals = 2 := hml0
  have hown : s.vm.findClass "java/lang/Math" = some m.cls := findClass_of_methodNamed Bd.named
  have hnm := (name_of_methodNamed Bd.named Bd.method).1
  have X0 : Stand p l e ({ frames := 0, cells := 0, slots := 0, locals := 0 } : Room) s m #[(.int xa), (.int xb)] below meth c s₁ [] 0 0 := Stand.of_body Bd
  have e0 : s₁.heap = h0 := by rw [← hh, Bd.state]; rfl
  have N0 := Fr.nil n0
  suffices hgo : own_Go p e below (fun o U' => ∃ v L, o = .returned v ∧ own_Q_own_max Z xa xb h0 n0 v U'.heap L ∧ FrameEnd s o U' L ({ frames := 0, cells := 0, slots := 0, locals := 0 } : Room).cells ({ frames := 0, cells := 0, slots := 0, locals := 0 } : Room).slots) (s₁.setTop (mkF m 0 #[.val (.int xa), .val (.int xb)] [])) by
    obtain ⟨s₂, o, h1, h2, h3, h4⟩ := hgo
    exact ⟨s₂, o, castTop (own_ef1 m xa xb) h1, h2, h3, h4⟩
  show own_Go p e below _ (s₁.setTop (mkF m 0 #[.val (.int xa), .val (.int xb)] []))
  refine own_Go.st (fun _ kt => XS.iloadN X0.here hx rfl (hb hby own_d_jdk_29_65_0) rfl kt) ?_
  show own_Go p e below _ (s₁.setTop (mkF m 1 #[.val (.int xa), .val (.int xb)] [(.int xa)]))
  refine own_Go.st (fun _ kt => XS.iloadN X0.here hx rfl (hb hby own_d_jdk_29_65_1) rfl kt) ?_
  show own_Go p e below _ (s₁.setTop (mkF m 2 #[.val (.int xa), .val (.int xb)] [(.int xb), (.int xa)]))
  by_cases hc : xa < xb
  · refine own_Go.st (fun _ kt => XS.icmpYes X0.here hx rfl (pc0 := 2) (pc' := 9) rfl (hb hby own_d_jdk_29_65_2) rfl (tlt hc).1 (by decide) (by decide) kt) ?_
    show own_Go p e below _ (s₁.setTop (mkF m 9 #[.val (.int xa), .val (.int xb)] []))
    refine own_Go.st (fun _ kt => XS.iloadN X0.here hx rfl (hb hby own_d_jdk_29_65_9) rfl kt) ?_
    show own_Go p e below _ (s₁.setTop (mkF m 10 #[.val (.int xa), .val (.int xb)] [(.int xb)]))
    exact own_retI X0 hx Bd.notSynchronized Bd.returns (hb hby own_d_jdk_29_65_10) (by decide) (by decide) ⟨by simp [hc], N0, e0⟩
  · refine own_Go.st (fun _ kt => XS.icmpNo X0.here hx rfl (hb hby own_d_jdk_29_65_2) rfl (flt hc).1 kt) ?_
    show own_Go p e below _ (s₁.setTop (mkF m 5 #[.val (.int xa), .val (.int xb)] []))
    refine own_Go.st (fun _ kt => XS.iloadN X0.here hx rfl (hb hby own_d_jdk_29_65_5) rfl kt) ?_
    show own_Go p e below _ (s₁.setTop (mkF m 6 #[.val (.int xa), .val (.int xb)] [(.int xa)]))
    refine own_Go.st (fun _ kt => XS.goto X0.here hx rfl (pc0 := 6) (pc' := 10) rfl (hb hby own_d_jdk_29_65_6) (by decide) (by decide) kt) ?_
    show own_Go p e below _ (s₁.setTop (mkF m 10 #[.val (.int xa), .val (.int xb)] [(.int xa)]))
    exact own_retI X0 hx Bd.notSynchronized Bd.returns (hb hby own_d_jdk_29_65_10) (by decide) (by decide) ⟨by simp [hc], N0, e0⟩
theorem own_ef2 (m : MethodId) (x0 : Int32) (x1 : Int32) : entryFrame m #[(.int x0), (.int x1)] 2 = mkF m 0 #[.val (.int x0), .val (.int x1)] [] := by first | (simp [entryFrame, mkF, argsToLocals, Value.category]; done) | rfl
theorem own_d_jdk_29_69_0 : decode jdk_29_method_69_code 0 = .ok (.iload_n 0, 1) := by decide +kernel
theorem own_d_jdk_29_69_1 : decode jdk_29_method_69_code 1 = .ok (.iload_n 1, 1) := by decide +kernel
theorem own_d_jdk_29_69_2 : decode jdk_29_method_69_code 2 = .ok (.if_icmp .gt 7, 3) := by decide +kernel
theorem own_d_jdk_29_69_9 : decode jdk_29_method_69_code 9 = .ok (.iload_n 1, 1) := by decide +kernel
theorem own_d_jdk_29_69_10 : decode jdk_29_method_69_code 10 = .ok (.ireturn, 1) := by decide +kernel
theorem own_d_jdk_29_69_5 : decode jdk_29_method_69_code 5 = .ok (.iload_n 0, 1) := by decide +kernel
theorem own_d_jdk_29_69_6 : decode jdk_29_method_69_code 6 = .ok (.goto 4, 3) := by decide +kernel
def own_Q_own_min (Z : State) (xa xb : Int32) (h0 : Heap) (n0 : Nat) (v : Option Value) (h : Heap) (L : List Loc) : Prop := v = some (.int (if xb < xa then xb else xa)) ∧ Fr n0 L ∧ h = h0
set_option maxRecDepth 65536 in
set_option maxHeartbeats 40000000 in
theorem own_min (l : Launch) (Z : State) (a0 : Array Value) (hw : ∀ d ∈ tables_1, d.before a0 Z = true) (ws : List Jvm.Cond) (xa xb : Int32) (h0 : Heap) (n0 : Nat) (Z0 : n0 ≤ h0.size)  :
    MetFree l (⟨"java/lang/Math", "min", "(II)I"⟩ : MethodName) (head1 (Jvm.Cond.code (⟨"java/lang/Math", "min", "(II)I"⟩ : MethodName) jdk_29_method_69_code 2 (some .int) :: ws) ({ frames := 0, cells := 0, slots := 0, locals := 0 } : Room)) (fun av_ U => av_ = #[(.int xa), (.int xb)] ∧ Z.Warmed39 U.vm ∧ U.heap = h0) (fun _ _ _ _ _ => True) (fun _ U o U' => ∃ v L, o = .returned v ∧ own_Q_own_min Z xa xb h0 n0 v U'.heap L ∧ FrameEnd U o U' L ({ frames := 0, cells := 0, slots := 0, locals := 0 } : Room).cells ({ frames := 0, cells := 0, slots := 0, locals := 0 } : Room).slots) := by
  refine MetFree.of_bodySF (by decide +kernel) hisR ?_
  intro p e s m args below meth c s₁ Bd hml0 hP hK
  obtain ⟨rfl, hZ, hh⟩ := hP
  have hx := Bd.exec
  have hby := Bd.bytes
  have hml : c.maxLocals = 2 := hml0
  have hown : s.vm.findClass "java/lang/Math" = some m.cls := findClass_of_methodNamed Bd.named
  have hnm := (name_of_methodNamed Bd.named Bd.method).1
  have X0 : Stand p l e ({ frames := 0, cells := 0, slots := 0, locals := 0 } : Room) s m #[(.int xa), (.int xb)] below meth c s₁ [] 0 0 := Stand.of_body Bd
  have e0 : s₁.heap = h0 := by rw [← hh, Bd.state]; rfl
  have N0 := Fr.nil n0
  suffices hgo : own_Go p e below (fun o U' => ∃ v L, o = .returned v ∧ own_Q_own_min Z xa xb h0 n0 v U'.heap L ∧ FrameEnd s o U' L ({ frames := 0, cells := 0, slots := 0, locals := 0 } : Room).cells ({ frames := 0, cells := 0, slots := 0, locals := 0 } : Room).slots) (s₁.setTop (mkF m 0 #[.val (.int xa), .val (.int xb)] [])) by
    obtain ⟨s₂, o, h1, h2, h3, h4⟩ := hgo
    exact ⟨s₂, o, castTop (own_ef2 m xa xb) h1, h2, h3, h4⟩
  show own_Go p e below _ (s₁.setTop (mkF m 0 #[.val (.int xa), .val (.int xb)] []))
  refine own_Go.st (fun _ kt => XS.iloadN X0.here hx rfl (hb hby own_d_jdk_29_69_0) rfl kt) ?_
  show own_Go p e below _ (s₁.setTop (mkF m 1 #[.val (.int xa), .val (.int xb)] [(.int xa)]))
  refine own_Go.st (fun _ kt => XS.iloadN X0.here hx rfl (hb hby own_d_jdk_29_69_1) rfl kt) ?_
  show own_Go p e below _ (s₁.setTop (mkF m 2 #[.val (.int xa), .val (.int xb)] [(.int xb), (.int xa)]))
  by_cases hc : xb < xa
  · refine own_Go.st (fun _ kt => XS.icmpYes X0.here hx rfl (pc0 := 2) (pc' := 9) rfl (hb hby own_d_jdk_29_69_2) rfl (tlt hc).2.2.1 (by decide) (by decide) kt) ?_
    show own_Go p e below _ (s₁.setTop (mkF m 9 #[.val (.int xa), .val (.int xb)] []))
    refine own_Go.st (fun _ kt => XS.iloadN X0.here hx rfl (hb hby own_d_jdk_29_69_9) rfl kt) ?_
    show own_Go p e below _ (s₁.setTop (mkF m 10 #[.val (.int xa), .val (.int xb)] [(.int xb)]))
    exact own_retI X0 hx Bd.notSynchronized Bd.returns (hb hby own_d_jdk_29_69_10) (by decide) (by decide) ⟨by simp [hc], N0, e0⟩
  · refine own_Go.st (fun _ kt => XS.icmpNo X0.here hx rfl (hb hby own_d_jdk_29_69_2) rfl (flt hc).2.2.1 kt) ?_
    show own_Go p e below _ (s₁.setTop (mkF m 5 #[.val (.int xa), .val (.int xb)] []))
    refine own_Go.st (fun _ kt => XS.iloadN X0.here hx rfl (hb hby own_d_jdk_29_69_5) rfl kt) ?_
    show own_Go p e below _ (s₁.setTop (mkF m 6 #[.val (.int xa), .val (.int xb)] [(.int xa)]))
    refine own_Go.st (fun _ kt => XS.goto X0.here hx rfl (pc0 := 6) (pc' := 10) rfl (hb hby own_d_jdk_29_69_6) (by decide) (by decide) kt) ?_
    show own_Go p e below _ (s₁.setTop (mkF m 10 #[.val (.int xa), .val (.int xb)] [(.int xa)]))
    exact own_retI X0 hx Bd.notSynchronized Bd.returns (hb hby own_d_jdk_29_69_10) (by decide) (by decide) ⟨by simp [hc], N0, e0⟩
theorem own_pn0 : plainName "com/example/thicket/thicket/RectContainsPinLaw" = true := by first | (simp [plainName, overriddenIn]; done) | decide +kernel
theorem own_ef3 (m : MethodId) (x0 : Int32) (x1 : Int32) (x2 : Int32) : entryFrame m #[(.int x0), (.int x1), (.int x2)] 3 = mkF m 0 #[.val (.int x0), .val (.int x1), .val (.int x2)] [] := by first | (simp [entryFrame, mkF, argsToLocals, Value.category]; done) | rfl
theorem own_d_method_2_0 : decode method_2_code 0 = .ok (.iload_n 0, 1) := by decide +kernel
theorem own_d_method_2_1 : decode method_2_code 1 = .ok (.ifCond .ne 15, 3) := by decide +kernel
theorem own_d_method_2_4 : decode method_2_code 4 = .ok (.iload_n 1, 1) := by decide +kernel
theorem own_d_method_2_5 : decode method_2_code 5 = .ok (.iload_n 2, 1) := by decide +kernel
theorem own_d_method_2_6 : decode method_2_code 6 = .ok (.iushr, 1) := by decide +kernel
theorem own_d_method_2_7 : decode method_2_code 7 = .ok (.iconst 1, 1) := by decide +kernel
theorem own_d_method_2_8 : decode method_2_code 8 = .ok (.iand, 1) := by decide +kernel
theorem own_d_method_2_9 : decode method_2_code 9 = .ok (.ifCond .eq 7, 3) := by decide +kernel
theorem own_d_method_2_16 : decode method_2_code 16 = .ok (.iload_n 0, 1) := by decide +kernel
theorem own_d_method_2_17 : decode method_2_code 17 = .ok (.i2d, 1) := by decide +kernel
theorem own_d_method_2_18 : decode method_2_code 18 = .ok (.dreturn, 1) := by decide +kernel
theorem own_d_method_2_12 : decode method_2_code 12 = .ok (.ldc2_w 7, 3) := by decide +kernel
theorem own_d_method_2_15 : decode method_2_code 15 = .ok (.dreturn, 1) := by decide +kernel
def own_Q_own_coord (Z : State) (xv xz xt : Int32) (h0 : Heap) (n0 : Nat) (v : Option Value) (h : Heap) (L : List Loc) : Prop := ∃ d, v = some (.double d) ∧ Fr n0 L ∧ own_like d xv.toInt64 ∧ h = h0
set_option maxRecDepth 65536 in
set_option maxHeartbeats 40000000 in
theorem own_coord (l : Launch) (Z : State) (a0 : Array Value) (hw : ∀ d ∈ tables_1, d.before a0 Z = true) (ws : List Jvm.Cond) (xv xz xt : Int32) (h0 : Heap) (n0 : Nat) (Z0 : n0 ≤ h0.size)  :
    MetFree l (⟨"com/example/thicket/thicket/RectContainsPinLaw", "coord", "(III)D"⟩ : MethodName) (head1 (Jvm.Cond.code (⟨"com/example/thicket/thicket/RectContainsPinLaw", "coord", "(III)D"⟩ : MethodName) method_2_code 3 (some .double) :: ws) ({ frames := 0, cells := 0, slots := 0, locals := 0 } : Room)) (fun av_ U => av_ = #[(.int xv), (.int xz), (.int xt)] ∧ Z.Warmed39 U.vm ∧ U.heap = h0) (fun _ _ _ _ _ => True) (fun _ U o U' => ∃ v L, o = .returned v ∧ own_Q_own_coord Z xv xz xt h0 n0 v U'.heap L ∧ FrameEnd U o U' L ({ frames := 0, cells := 0, slots := 0, locals := 0 } : Room).cells ({ frames := 0, cells := 0, slots := 0, locals := 0 } : Room).slots) := by
  refine MetFree.of_bodySF (plainFor_of_name own_pn0) hisR ?_
  intro p e s m args below meth c s₁ Bd hml0 hP hK
  obtain ⟨rfl, hZ, hh⟩ := hP
  have hx := Bd.exec
  have hby := Bd.bytes
  have hml : c.maxLocals = 3 := hml0
  have hown : s.vm.findClass "com/example/thicket/thicket/RectContainsPinLaw" = some m.cls := findClass_of_methodNamed Bd.named
  have hnm := (name_of_methodNamed Bd.named Bd.method).1
  have X0 : Stand p l e ({ frames := 0, cells := 0, slots := 0, locals := 0 } : Room) s m #[(.int xv), (.int xz), (.int xt)] below meth c s₁ [] 0 0 := Stand.of_body Bd
  have e0 : s₁.heap = h0 := by rw [← hh, Bd.state]; rfl
  have N0 := Fr.nil n0
  suffices hgo : own_Go p e below (fun o U' => ∃ v L, o = .returned v ∧ own_Q_own_coord Z xv xz xt h0 n0 v U'.heap L ∧ FrameEnd s o U' L ({ frames := 0, cells := 0, slots := 0, locals := 0 } : Room).cells ({ frames := 0, cells := 0, slots := 0, locals := 0 } : Room).slots) (s₁.setTop (mkF m 0 #[.val (.int xv), .val (.int xz), .val (.int xt)] [])) by
    obtain ⟨s₂, o, h1, h2, h3, h4⟩ := hgo
    exact ⟨s₂, o, castTop (own_ef3 m xv xz xt) h1, h2, h3, h4⟩
  show own_Go p e below _ (s₁.setTop (mkF m 0 #[.val (.int xv), .val (.int xz), .val (.int xt)] []))
  refine own_Go.st (fun _ kt => XS.iloadN X0.here hx rfl (hb hby own_d_method_2_0) rfl kt) ?_
  show own_Go p e below _ (s₁.setTop (mkF m 1 #[.val (.int xv), .val (.int xz), .val (.int xt)] [(.int xv)]))
  by_cases hc1 : xv = (0 : Int32)
  · refine own_Go.st (fun _ kt => XS.ifNo X0.here hx rfl (hb hby own_d_method_2_1) rfl ((if0 _ _).trans (teq hc1).2) kt) ?_
    show own_Go p e below _ (s₁.setTop (mkF m 4 #[.val (.int xv), .val (.int xz), .val (.int xt)] []))
    refine own_Go.st (fun _ kt => XS.iloadN X0.here hx rfl (hb hby own_d_method_2_4) rfl kt) ?_
    show own_Go p e below _ (s₁.setTop (mkF m 5 #[.val (.int xv), .val (.int xz), .val (.int xt)] [(.int xz)]))
    refine own_Go.st (fun _ kt => XS.iloadN X0.here hx rfl (hb hby own_d_method_2_5) rfl kt) ?_
    show own_Go p e below _ (s₁.setTop (mkF m 6 #[.val (.int xv), .val (.int xz), .val (.int xt)] [(.int xt), (.int xz)]))
    refine own_Go.st (fun _ kt => XS.iushr X0.here hx rfl (hb hby own_d_method_2_6) rfl kt) ?_
    show own_Go p e below _ (s₁.setTop (mkF m 7 #[.val (.int xv), .val (.int xz), .val (.int xt)] [(.int ((xz.toUInt32 >>> (xt &&& 31).toUInt32).toInt32))]))
    refine own_Go.st (fun _ kt => XS.iconst X0.here hx rfl (hb hby own_d_method_2_7) kt) ?_
    show own_Go p e below _ (s₁.setTop (mkF m 8 #[.val (.int xv), .val (.int xz), .val (.int xt)] [(.int (1 : Int32)), (.int ((xz.toUInt32 >>> (xt &&& 31).toUInt32).toInt32))]))
    refine own_Go.st (fun _ kt => XS.iand X0.here hx rfl (hb hby own_d_method_2_8) rfl kt) ?_
    show own_Go p e below _ (s₁.setTop (mkF m 9 #[.val (.int xv), .val (.int xz), .val (.int xt)] [(.int (((xz.toUInt32 >>> (xt &&& 31).toUInt32).toInt32) &&& (1 : Int32)))]))
    by_cases hc9 : (((xz.toUInt32 >>> (xt &&& 31).toUInt32).toInt32) &&& (1 : Int32)) = (0 : Int32)
    · refine own_Go.st (fun _ kt => XS.ifYes X0.here hx rfl (pc0 := 9) (pc' := 16) rfl (hb hby own_d_method_2_9) rfl ((if0 _ _).trans (teq hc9).1) (by decide) (by decide) kt) ?_
      show own_Go p e below _ (s₁.setTop (mkF m 16 #[.val (.int xv), .val (.int xz), .val (.int xt)] []))
      refine own_Go.st (fun _ kt => XS.iloadN X0.here hx rfl (hb hby own_d_method_2_16) rfl kt) ?_
      show own_Go p e below _ (s₁.setTop (mkF m 17 #[.val (.int xv), .val (.int xz), .val (.int xt)] [(.int xv)]))
      refine own_Go.st (fun _ kt => XS.i2dS X0.here hx rfl (hb hby own_d_method_2_17) rfl rfl kt) ?_
      show own_Go p e below _ (s₁.setTop (mkF m 18 #[.val (.int xv), .val (.int xz), .val (.int xt)] [(.double (FP.i2d xv))]))
      rw [show (FP.i2d xv) = (FP.l2d xv.toInt64) from i2d_w _]
      show own_Go p e below _ (s₁.setTop (mkF m 18 #[.val (.int xv), .val (.int xz), .val (.int xt)] [(.double (FP.l2d xv.toInt64))]))
      exact own_retD X0 hx Bd.notSynchronized Bd.returns (hb hby own_d_method_2_18) (by decide) (by decide) ⟨_, rfl, N0, Or.inl rfl, e0⟩
    · refine own_Go.st (fun _ kt => XS.ifNo X0.here hx rfl (hb hby own_d_method_2_9) rfl ((if0 _ _).trans (feq hc9).1) kt) ?_
      show own_Go p e below _ (s₁.setTop (mkF m 12 #[.val (.int xv), .val (.int xz), .val (.int xt)] []))
      refine own_Go.st (fun _ kt => X0.ldc2DoubleC hx hown (mvT hZ (hw _ (List.mem_of_getElem? (i := 14) rfl))) (g := (mkF m 12 #[.val (.int xv), .val (.int xz), .val (.int xt)] [])) rfl (hb hby own_d_method_2_12) _ kt) ?_
      show own_Go p e below _ (s₁.setTop (mkF m 15 #[.val (.int xv), .val (.int xz), .val (.int xt)] [(.double (9223372036854775808 : UInt64))]))
      exact own_retD X0 hx Bd.notSynchronized Bd.returns (hb hby own_d_method_2_15) (by decide) (by decide) ⟨_, rfl, N0, by rw [hc1]; exact own_like_negz, e0⟩
  · refine own_Go.st (fun _ kt => XS.ifYes X0.here hx rfl (pc0 := 1) (pc' := 16) rfl (hb hby own_d_method_2_1) rfl ((if0 _ _).trans (feq hc1).2) (by decide) (by decide) kt) ?_
    show own_Go p e below _ (s₁.setTop (mkF m 16 #[.val (.int xv), .val (.int xz), .val (.int xt)] []))
    refine own_Go.st (fun _ kt => XS.iloadN X0.here hx rfl (hb hby own_d_method_2_16) rfl kt) ?_
    show own_Go p e below _ (s₁.setTop (mkF m 17 #[.val (.int xv), .val (.int xz), .val (.int xt)] [(.int xv)]))
    refine own_Go.st (fun _ kt => XS.i2dS X0.here hx rfl (hb hby own_d_method_2_17) rfl rfl kt) ?_
    show own_Go p e below _ (s₁.setTop (mkF m 18 #[.val (.int xv), .val (.int xz), .val (.int xt)] [(.double (FP.i2d xv))]))
    rw [show (FP.i2d xv) = (FP.l2d xv.toInt64) from i2d_w _]
    show own_Go p e below _ (s₁.setTop (mkF m 18 #[.val (.int xv), .val (.int xz), .val (.int xt)] [(.double (FP.l2d xv.toInt64))]))
    exact own_retD X0 hx Bd.notSynchronized Bd.returns (hb hby own_d_method_2_18) (by decide) (by decide) ⟨_, rfl, N0, Or.inl rfl, e0⟩
theorem own_pn1 : plainName "java/lang/Record" = true := by first | (simp [plainName, overriddenIn]; done) | decide +kernel
theorem own_ef4 (m : MethodId) (x0 : Addr) : entryFrame m #[(.ref x0)] 1 = mkF m 0 #[.val (.ref x0)] [] := by first | (simp [entryFrame, mkF, argsToLocals, Value.category]; done) | rfl
theorem own_d_jdk_30_1_0 : decode jdk_30_method_1_code 0 = .ok (.aload_n 0, 1) := by decide +kernel
theorem own_d_jdk_30_1_1 : decode jdk_30_method_1_code 1 = .ok (.invokespecial 1, 3) := by decide +kernel
theorem own_d_jdk_30_1_4 : decode jdk_30_method_1_code 4 = .ok (.return_, 1) := by decide +kernel
def own_Q_own_recinit (Z : State) (ao : Addr) (h0 : Heap) (n0 : Nat) (v : Option Value) (h : Heap) (L : List Loc) : Prop := v = none ∧ Fr n0 L ∧ h = h0
set_option maxRecDepth 65536 in
set_option maxHeartbeats 40000000 in
theorem own_recinit (l : Launch) (Z : State) (a0 : Array Value) (hw : ∀ d ∈ tables_1, d.before a0 Z = true) (ws : List Jvm.Cond) (ao : Addr) (h0 : Heap) (n0 : Nat) (Z0 : n0 ≤ h0.size)  :
    MetFree l (⟨"java/lang/Record", "<init>", "()V"⟩ : MethodName) (head1 (Jvm.Cond.code (⟨"java/lang/Record", "<init>", "()V"⟩ : MethodName) jdk_30_method_1_code 1 none :: ws) ({ frames := 1, cells := 0, slots := 0, locals := 12 } : Room)) (fun av_ U => av_ = #[(.ref ao)] ∧ Z.Warmed39 U.vm ∧ U.heap = h0) (fun _ _ _ _ _ => True) (fun _ U o U' => ∃ v L, o = .returned v ∧ own_Q_own_recinit Z ao h0 n0 v U'.heap L ∧ FrameEnd U o U' L ({ frames := 1, cells := 0, slots := 0, locals := 12 } : Room).cells ({ frames := 1, cells := 0, slots := 0, locals := 12 } : Room).slots) := by
  refine MetFree.of_bodySF (plainFor_of_name own_pn1) hisR ?_
  intro p e s m args below meth c s₁ Bd hml0 hP hK
  obtain ⟨rfl, hZ, hh⟩ := hP
  have hx := Bd.exec
  have hby := Bd.bytes
  have hml : c.maxLocals = 1 := hml0
  have hown : s.vm.findClass "java/lang/Record" = some m.cls := findClass_of_methodNamed Bd.named
  have hnm := (name_of_methodNamed Bd.named Bd.method).1
  have X0 : Stand p l e ({ frames := 1, cells := 0, slots := 0, locals := 12 } : Room) s m #[(.ref ao)] below meth c s₁ [] 0 0 := Stand.of_body Bd
  have e0 : s₁.heap = h0 := by rw [← hh, Bd.state]; rfl
  have N0 := Fr.nil n0
  suffices hgo : own_Go p e below (fun o U' => ∃ v L, o = .returned v ∧ own_Q_own_recinit Z ao h0 n0 v U'.heap L ∧ FrameEnd s o U' L ({ frames := 1, cells := 0, slots := 0, locals := 12 } : Room).cells ({ frames := 1, cells := 0, slots := 0, locals := 12 } : Room).slots) (s₁.setTop (mkF m 0 #[.val (.ref ao)] [])) by
    obtain ⟨s₂, o, h1, h2, h3, h4⟩ := hgo
    exact ⟨s₂, o, castTop (own_ef4 m ao) h1, h2, h3, h4⟩
  show own_Go p e below _ (s₁.setTop (mkF m 0 #[.val (.ref ao)] []))
  refine own_Go.st (fun _ kt => XS.aloadN X0.here hx rfl (hb hby own_d_jdk_30_1_0) rfl rfl kt) ?_
  show own_Go p e below _ (s₁.setTop (mkF m 1 #[.val (.ref ao)] [(.ref ao)]))
  obtain ⟨T1, X1, e1, st1⟩ := initO X0 hx hZ hown (hw _ (List.mem_of_getElem? (i := 23) rfl)) (hw _ (List.mem_of_getElem? (i := 24) rfl)) (hw _ (List.mem_of_getElem? (i := 25) rfl)) e0 (g := (mkF m 1 #[.val (.ref ao)] [(.ref ao)])) rfl (by rw [hml]; rfl) rfl (hb hby own_d_jdk_30_1_1) (by decide) (W := 0) (by show 2 * 0 + _ ≤ _; exact Nat.le_of_eq rfl) (by decide)
  refine own_Go.st st1 ?_
  show own_Go p e below _ (T1.setTop (mkF m 4 #[.val (.ref ao)] []))
  exact own_retV X1 hx Bd.notSynchronized Bd.returns (hb hby own_d_jdk_30_1_4) (by decide) (by decide) ⟨rfl, N0, e1⟩
theorem own_pn2 : plainName "java/lang/Double" = true := by first | (simp [plainName, overriddenIn]; done) | decide +kernel
theorem own_ef5 (m : MethodId) (x0 : UInt64) : entryFrame m #[(.double x0)] 2 = mkF m 0 #[.val (.double x0), .second] [] := by first | (simp [entryFrame, mkF, argsToLocals, Value.category]; done) | rfl
theorem own_d_jdk_117_8_0 : decode jdk_117_method_8_code 0 = .ok (.dload_n 0, 1) := by decide +kernel
theorem own_d_jdk_117_8_1 : decode jdk_117_method_8_code 1 = .ok (.invokestatic 38, 3) := by decide +kernel
theorem own_pd0 : parseMethodDescriptor "(D)D" = some ⟨[.double], some .double⟩ := by decide +kernel
theorem own_d_jdk_117_8_4 : decode jdk_117_method_8_code 4 = .ok (.ldc2_w 111, 3) := by decide +kernel
theorem own_d_jdk_117_8_7 : decode jdk_117_method_8_code 7 = .ok (.dcmp .g, 1) := by decide +kernel
theorem own_d_jdk_117_8_8 : decode jdk_117_method_8_code 8 = .ok (.ifCond .gt 7, 3) := by decide +kernel
theorem own_d_jdk_117_8_11 : decode jdk_117_method_8_code 11 = .ok (.iconst 1, 1) := by decide +kernel
theorem own_d_jdk_117_8_12 : decode jdk_117_method_8_code 12 = .ok (.goto 4, 3) := by decide +kernel
theorem own_d_jdk_117_8_16 : decode jdk_117_method_8_code 16 = .ok (.ireturn, 1) := by decide +kernel
def own_Q_own_isfin (Z : State) (xd : UInt64) (xa : Int64) (h0 : Heap) (n0 : Nat) (v : Option Value) (h : Heap) (L : List Loc) : Prop := v = some (.int 1) ∧ Fr n0 L ∧ h = h0
set_option maxRecDepth 65536 in
set_option maxHeartbeats 40000000 in
theorem own_isfin (l : Launch) (Z : State) (a0 : Array Value) (hw : ∀ d ∈ tables_1, d.before a0 Z = true) (ws : List Jvm.Cond) (xd : UInt64) (xa : Int64) (h0 : Heap) (n0 : Nat) (Z0 : n0 ≤ h0.size) (lk : own_like xd xa) :
    MetFree l (⟨"java/lang/Double", "isFinite", "(D)Z"⟩ : MethodName) (head1 (Jvm.Cond.code (⟨"java/lang/Double", "isFinite", "(D)Z"⟩ : MethodName) jdk_117_method_8_code 2 (some .boolean) :: ws) ({ frames := 1, cells := 0, slots := 0, locals := 13 } : Room)) (fun av_ U => av_ = #[(.double xd)] ∧ Z.Warmed39 U.vm ∧ U.heap = h0) (fun _ _ _ _ _ => True) (fun _ U o U' => ∃ v L, o = .returned v ∧ own_Q_own_isfin Z xd xa h0 n0 v U'.heap L ∧ FrameEnd U o U' L ({ frames := 1, cells := 0, slots := 0, locals := 13 } : Room).cells ({ frames := 1, cells := 0, slots := 0, locals := 13 } : Room).slots) := by
  refine MetFree.of_bodySF (plainFor_of_name own_pn2) hisR ?_
  intro p e s m args below meth c s₁ Bd hml0 hP hK
  obtain ⟨rfl, hZ, hh⟩ := hP
  have hx := Bd.exec
  have hby := Bd.bytes
  have hml : c.maxLocals = 2 := hml0
  have hown : s.vm.findClass "java/lang/Double" = some m.cls := findClass_of_methodNamed Bd.named
  have hnm := (name_of_methodNamed Bd.named Bd.method).1
  have X0 : Stand p l e ({ frames := 1, cells := 0, slots := 0, locals := 13 } : Room) s m #[(.double xd)] below meth c s₁ [] 0 0 := Stand.of_body Bd
  have e0 : s₁.heap = h0 := by rw [← hh, Bd.state]; rfl
  have N0 := Fr.nil n0
  suffices hgo : own_Go p e below (fun o U' => ∃ v L, o = .returned v ∧ own_Q_own_isfin Z xd xa h0 n0 v U'.heap L ∧ FrameEnd s o U' L ({ frames := 1, cells := 0, slots := 0, locals := 13 } : Room).cells ({ frames := 1, cells := 0, slots := 0, locals := 13 } : Room).slots) (s₁.setTop (mkF m 0 #[.val (.double xd), .second] [])) by
    obtain ⟨s₂, o, h1, h2, h3, h4⟩ := hgo
    exact ⟨s₂, o, castTop (own_ef5 m xd) h1, h2, h3, h4⟩
  show own_Go p e below _ (s₁.setTop (mkF m 0 #[.val (.double xd), .second] []))
  refine own_Go.st (fun _ kt => XS.dloadN X0.here hx rfl (hb hby own_d_jdk_117_8_0) rfl kt) ?_
  show own_Go p e below _ (s₁.setTop (mkF m 1 #[.val (.double xd), .second] [(.double xd)]))
  obtain ⟨T1, X1, e1, st1⟩ := natS X0 hx hZ (y := Jvm.Free.Fl.Abs.absDN) hown (hw _ (List.mem_of_getElem? (i := 30) rfl)) (hw _ (List.mem_of_getElem? (i := 31) rfl)) (hw _ (List.mem_of_getElem? (i := 2) rfl)) (hw _ (List.mem_of_getElem? (i := 32) rfl)) (by decide) e0 (W := 0) (F := fun a' => a' = #[.double xd] ∧ Jvm.Free.Fl.NoNaN64 xd) (val := .double (xd &&& 0x7fffffffffffffff)) (val' := .double (xd &&& 0x7fffffffffffffff)) (fun hc => Jvm.Free.Fl.Abs.absD_pays xd hc (by decide) (by decide)) (g := (mkF m 1 #[.val (.double xd), .second] [(.double xd)])) rfl (by rw [hml]; rfl) (argsL := [(.double xd)]) (rest := []) (lenOf own_pd0 rfl) rfl (by show 2 * 0 + _ ≤ _; exact Nat.le_of_eq rfl) (hb hby own_d_jdk_117_8_1) (by decide) (by decide) ⟨rfl, (own_like_nn lk)⟩ rfl
  refine own_Go.st st1 ?_
  show own_Go p e below _ (T1.setTop (mkF m 4 #[.val (.double xd), .second] [(.double (xd &&& 0x7fffffffffffffff))]))
  refine own_Go.st (fun _ kt => X1.ldc2DoubleC hx hown (mvT hZ (hw _ (List.mem_of_getElem? (i := 33) rfl))) (g := (mkF m 4 #[.val (.double xd), .second] [(.double (xd &&& 0x7fffffffffffffff))])) rfl (hb hby own_d_jdk_117_8_4) _ kt) ?_
  show own_Go p e below _ (T1.setTop (mkF m 7 #[.val (.double xd), .second] [(.double (9218868437227405311 : UInt64)), (.double (xd &&& 0x7fffffffffffffff))]))
  refine own_Go.st (fun _ kt => XS.dcmpS X1.here hx rfl (hb hby own_d_jdk_117_8_7) rfl rfl kt) ?_
  show own_Go p e below _ (T1.setTop (mkF m 8 #[.val (.double xd), .second] [(.int (cmpValue (FP.dcmp (xd &&& 0x7fffffffffffffff) (9218868437227405311 : UInt64)) .g))]))
  refine own_Go.st (fun _ kt => XS.ifNo X1.here hx rfl (hb hby own_d_jdk_117_8_8) rfl ((if0 _ _).trans (flt (own_like_fin lk)).2.2.1) kt) ?_
  show own_Go p e below _ (T1.setTop (mkF m 11 #[.val (.double xd), .second] []))
  refine own_Go.st (fun _ kt => XS.iconst X1.here hx rfl (hb hby own_d_jdk_117_8_11) kt) ?_
  show own_Go p e below _ (T1.setTop (mkF m 12 #[.val (.double xd), .second] [(.int (1 : Int32))]))
  refine own_Go.st (fun _ kt => XS.goto X1.here hx rfl (pc0 := 12) (pc' := 16) rfl (hb hby own_d_jdk_117_8_12) (by decide) (by decide) kt) ?_
  show own_Go p e below _ (T1.setTop (mkF m 16 #[.val (.double xd), .second] [(.int (1 : Int32))]))
  exact own_retZ X1 hx Bd.notSynchronized Bd.returns (Or.inr rfl) (hb hby own_d_jdk_117_8_16) (by decide) (by decide) ⟨rfl, N0, e1⟩
theorem own_ef6 (m : MethodId) (x0 : UInt64) : entryFrame m #[(.double x0)] 2 = mkF m 0 #[.val (.double x0), .second] [] := by first | (simp [entryFrame, mkF, argsToLocals, Value.category]; done) | rfl
theorem own_d_jdk_117_6_0 : decode jdk_117_method_6_code 0 = .ok (.dload_n 0, 1) := by decide +kernel
theorem own_d_jdk_117_6_1 : decode jdk_117_method_6_code 1 = .ok (.dload_n 0, 1) := by decide +kernel
theorem own_d_jdk_117_6_2 : decode jdk_117_method_6_code 2 = .ok (.dcmp .l, 1) := by decide +kernel
theorem own_d_jdk_117_6_3 : decode jdk_117_method_6_code 3 = .ok (.ifCond .eq 7, 3) := by decide +kernel
theorem own_d_jdk_117_6_10 : decode jdk_117_method_6_code 10 = .ok (.iconst 0, 1) := by decide +kernel
theorem own_d_jdk_117_6_11 : decode jdk_117_method_6_code 11 = .ok (.ireturn, 1) := by decide +kernel
def own_Q_own_isnan (Z : State) (xd : UInt64) (h0 : Heap) (n0 : Nat) (v : Option Value) (h : Heap) (L : List Loc) : Prop := v = some (.int 0) ∧ Fr n0 L ∧ h = h0
set_option maxRecDepth 65536 in
set_option maxHeartbeats 40000000 in
theorem own_isnan (l : Launch) (Z : State) (a0 : Array Value) (hw : ∀ d ∈ tables_1, d.before a0 Z = true) (ws : List Jvm.Cond) (xd : UInt64) (h0 : Heap) (n0 : Nat) (Z0 : n0 ≤ h0.size) (nn : Jvm.Free.Fl.NoNaN64 xd) :
    MetFree l (⟨"java/lang/Double", "isNaN", "(D)Z"⟩ : MethodName) (head1 (Jvm.Cond.code (⟨"java/lang/Double", "isNaN", "(D)Z"⟩ : MethodName) jdk_117_method_6_code 2 (some .boolean) :: ws) ({ frames := 0, cells := 0, slots := 0, locals := 0 } : Room)) (fun av_ U => av_ = #[(.double xd)] ∧ Z.Warmed39 U.vm ∧ U.heap = h0) (fun _ _ _ _ _ => True) (fun _ U o U' => ∃ v L, o = .returned v ∧ own_Q_own_isnan Z xd h0 n0 v U'.heap L ∧ FrameEnd U o U' L ({ frames := 0, cells := 0, slots := 0, locals := 0 } : Room).cells ({ frames := 0, cells := 0, slots := 0, locals := 0 } : Room).slots) := by
  refine MetFree.of_bodySF (plainFor_of_name own_pn2) hisR ?_
  intro p e s m args below meth c s₁ Bd hml0 hP hK
  obtain ⟨rfl, hZ, hh⟩ := hP
  have hx := Bd.exec
  have hby := Bd.bytes
  have hml : c.maxLocals = 2 := hml0
  have hown : s.vm.findClass "java/lang/Double" = some m.cls := findClass_of_methodNamed Bd.named
  have hnm := (name_of_methodNamed Bd.named Bd.method).1
  have X0 : Stand p l e ({ frames := 0, cells := 0, slots := 0, locals := 0 } : Room) s m #[(.double xd)] below meth c s₁ [] 0 0 := Stand.of_body Bd
  have e0 : s₁.heap = h0 := by rw [← hh, Bd.state]; rfl
  have N0 := Fr.nil n0
  suffices hgo : own_Go p e below (fun o U' => ∃ v L, o = .returned v ∧ own_Q_own_isnan Z xd h0 n0 v U'.heap L ∧ FrameEnd s o U' L ({ frames := 0, cells := 0, slots := 0, locals := 0 } : Room).cells ({ frames := 0, cells := 0, slots := 0, locals := 0 } : Room).slots) (s₁.setTop (mkF m 0 #[.val (.double xd), .second] [])) by
    obtain ⟨s₂, o, h1, h2, h3, h4⟩ := hgo
    exact ⟨s₂, o, castTop (own_ef6 m xd) h1, h2, h3, h4⟩
  show own_Go p e below _ (s₁.setTop (mkF m 0 #[.val (.double xd), .second] []))
  refine own_Go.st (fun _ kt => XS.dloadN X0.here hx rfl (hb hby own_d_jdk_117_6_0) rfl kt) ?_
  show own_Go p e below _ (s₁.setTop (mkF m 1 #[.val (.double xd), .second] [(.double xd)]))
  refine own_Go.st (fun _ kt => XS.dloadN X0.here hx rfl (hb hby own_d_jdk_117_6_1) rfl kt) ?_
  show own_Go p e below _ (s₁.setTop (mkF m 2 #[.val (.double xd), .second] [(.double xd), (.double xd)]))
  refine own_Go.st (fun _ kt => XS.dcmpS X0.here hx rfl (hb hby own_d_jdk_117_6_2) rfl (dcmpV_self nn _) kt) ?_
  show own_Go p e below _ (s₁.setTop (mkF m 3 #[.val (.double xd), .second] [(.int (0 : Int32))]))
  refine own_Go.st (fun _ kt => XS.ifYes X0.here hx rfl (pc0 := 3) (pc' := 10) rfl (hb hby own_d_jdk_117_6_3) rfl ((if0 _ _).trans (teq rfl).1) (by decide) (by decide) kt) ?_
  show own_Go p e below _ (s₁.setTop (mkF m 10 #[.val (.double xd), .second] []))
  refine own_Go.st (fun _ kt => XS.iconst X0.here hx rfl (hb hby own_d_jdk_117_6_10) kt) ?_
  show own_Go p e below _ (s₁.setTop (mkF m 11 #[.val (.double xd), .second] [(.int (0 : Int32))]))
  exact own_retZ X0 hx Bd.notSynchronized Bd.returns (Or.inl rfl) (hb hby own_d_jdk_117_6_11) (by decide) (by decide) ⟨rfl, N0, e0⟩
theorem own_ef7 (m : MethodId) (x0 : UInt64) : entryFrame m #[(.double x0)] 2 = mkF m 0 #[.val (.double x0), .second] [] := by first | (simp [entryFrame, mkF, argsToLocals, Value.category]; done) | rfl
theorem own_d_jdk_117_23_0 : decode jdk_117_method_23_code 0 = .ok (.dload_n 0, 1) := by decide +kernel
theorem own_d_jdk_117_23_1 : decode jdk_117_method_23_code 1 = .ok (.invokestatic 122, 3) := by decide +kernel
theorem own_pd1 : parseMethodDescriptor "(D)Z" = some ⟨[.double], some .boolean⟩ := by decide +kernel
theorem own_d_jdk_117_23_4 : decode jdk_117_method_23_code 4 = .ok (.ifCond .ne 8, 3) := by decide +kernel
theorem own_d_jdk_117_23_7 : decode jdk_117_method_23_code 7 = .ok (.dload_n 0, 1) := by decide +kernel
theorem own_d_jdk_117_23_8 : decode jdk_117_method_23_code 8 = .ok (.invokestatic 134, 3) := by decide +kernel
theorem own_d_jdk_117_23_11 : decode jdk_117_method_23_code 11 = .ok (.lreturn, 1) := by decide +kernel
def own_Q_own_bits (Z : State) (xd : UInt64) (h0 : Heap) (n0 : Nat) (v : Option Value) (h : Heap) (L : List Loc) : Prop := v = some (.long xd.toInt64) ∧ Fr n0 L ∧ h = h0
set_option maxRecDepth 65536 in
set_option maxHeartbeats 40000000 in
theorem own_bits (l : Launch) (Z : State) (a0 : Array Value) (hw : ∀ d ∈ tables_1, d.before a0 Z = true) (ws : List Jvm.Cond) (xd : UInt64) (h0 : Heap) (n0 : Nat) (Z0 : n0 ≤ h0.size) (nn : Jvm.Free.Fl.NoNaN64 xd) :
    MetFree l (⟨"java/lang/Double", "doubleToLongBits", "(D)J"⟩ : MethodName) (head1 (Jvm.Cond.code (⟨"java/lang/Double", "doubleToLongBits", "(D)J"⟩ : MethodName) jdk_117_method_23_code 2 (some .long) :: ws) ({ frames := 1, cells := 0, slots := 0, locals := 15 } : Room)) (fun av_ U => av_ = #[(.double xd)] ∧ Z.Warmed39 U.vm ∧ U.heap = h0) (fun _ _ _ _ _ => True) (fun _ U o U' => ∃ v L, o = .returned v ∧ own_Q_own_bits Z xd h0 n0 v U'.heap L ∧ FrameEnd U o U' L ({ frames := 1, cells := 0, slots := 0, locals := 15 } : Room).cells ({ frames := 1, cells := 0, slots := 0, locals := 15 } : Room).slots) := by
  refine MetFree.of_bodySF (plainFor_of_name own_pn2) hisR ?_
  intro p e s m args below meth c s₁ Bd hml0 hP hK
  obtain ⟨rfl, hZ, hh⟩ := hP
  have hx := Bd.exec
  have hby := Bd.bytes
  have hml : c.maxLocals = 2 := hml0
  have hown : s.vm.findClass "java/lang/Double" = some m.cls := findClass_of_methodNamed Bd.named
  have hnm := (name_of_methodNamed Bd.named Bd.method).1
  have X0 : Stand p l e ({ frames := 1, cells := 0, slots := 0, locals := 15 } : Room) s m #[(.double xd)] below meth c s₁ [] 0 0 := Stand.of_body Bd
  have e0 : s₁.heap = h0 := by rw [← hh, Bd.state]; rfl
  have N0 := Fr.nil n0
  suffices hgo : own_Go p e below (fun o U' => ∃ v L, o = .returned v ∧ own_Q_own_bits Z xd h0 n0 v U'.heap L ∧ FrameEnd s o U' L ({ frames := 1, cells := 0, slots := 0, locals := 15 } : Room).cells ({ frames := 1, cells := 0, slots := 0, locals := 15 } : Room).slots) (s₁.setTop (mkF m 0 #[.val (.double xd), .second] [])) by
    obtain ⟨s₂, o, h1, h2, h3, h4⟩ := hgo
    exact ⟨s₂, o, castTop (own_ef7 m xd) h1, h2, h3, h4⟩
  show own_Go p e below _ (s₁.setTop (mkF m 0 #[.val (.double xd), .second] []))
  refine own_Go.st (fun _ kt => XS.dloadN X0.here hx rfl (hb hby own_d_jdk_117_23_0) rfl kt) ?_
  show own_Go p e below _ (s₁.setTop (mkF m 1 #[.val (.double xd), .second] [(.double xd)]))
  obtain ⟨_, _, ⟨T1, L1, k1, n1⟩, -, X1, ⟨Lc1, hQ1, l1, y1, z1⟩, st1⟩ := Jvm.LawKit.callS X0 hx (y := (⟨"java/lang/Double", "isNaN", "(D)Z"⟩ : MethodName)) hown (mvT hZ (hw _ (List.mem_of_getElem? (i := 63) rfl))) (mvT hZ (hw _ (List.mem_of_getElem? (i := 64) rfl))) (mvT hZ (hw _ (List.mem_of_getElem? (i := 28) rfl))) (mvT hZ (hw _ (List.mem_of_getElem? (i := 65) rfl))) (by decide) (backOf (W := 0) (own_isnan l Z a0 hw [] xd h0 n0 Z0 nn) hZ (hw _ (List.mem_of_getElem? (i := 65) rfl)) (hw _ (List.mem_of_getElem? (i := 28) rfl)) (by decide) (by decide)) (g := (mkF m 1 #[.val (.double xd), .second] [(.double xd)])) rfl (by rw [hml]; rfl) (argsL := [(.double xd)]) (rest := []) (lenOf own_pd1 rfl) rfl (by show 2 * 0 + _ ≤ _; exact Nat.le_of_eq rfl) (hb hby own_d_jdk_117_23_1) (fun _ _ => ⟨rfl, e0, (by decide : 0 + 0 ≤ _), (by decide : 0 + 0 ≤ _)⟩)
  dsimp only [Pt.U, Pt.locs, Pt.cells, Pt.slots] at X1 l1 y1 z1 st1 hQ1
  subst l1 y1 z1
  obtain ⟨rfl, N1q, hh1⟩ := hQ1
  have N1 := Fr.app N0 N1q
  refine own_Go.st (fun _ kt => st1 _ kt) ?_
  show own_Go p e below _ (T1.setTop (mkF m 4 #[.val (.double xd), .second] [(.int (0 : Int32))]))
  refine own_Go.st (fun _ kt => XS.ifNo X1.here hx rfl (hb hby own_d_jdk_117_23_4) rfl ((if0 _ _).trans (teq rfl).2) kt) ?_
  show own_Go p e below _ (T1.setTop (mkF m 7 #[.val (.double xd), .second] []))
  refine own_Go.st (fun _ kt => XS.dloadN X1.here hx rfl (hb hby own_d_jdk_117_23_7) rfl kt) ?_
  show own_Go p e below _ (T1.setTop (mkF m 8 #[.val (.double xd), .second] [(.double xd)]))
  obtain ⟨vm2, X2, st2⟩ := X1.doubleToRawLongBits hx hown (mvT hZ (hw _ (List.mem_of_getElem? (i := 66) rfl))) (mvT hZ (hw _ (List.mem_of_getElem? (i := 68) rfl))) (mvT hZ (hw _ (List.mem_of_getElem? (i := 67) rfl))) (mvT hZ (hw _ (List.mem_of_getElem? (i := 28) rfl))) (g := (mkF m 8 #[.val (.double xd), .second] [(.double xd)])) rfl (by rw [hml]; rfl) (rest := []) (b := xd) rfl (hb hby own_d_jdk_117_23_8) (by decide) (Nat.le_of_ble_eq_true rfl)
  have e2 : (T1.setVm vm2).heap = h0 := hh1
  refine own_Go.st st2 ?_
  show own_Go p e below _ ((T1.setVm vm2).setTop (mkF m 11 #[.val (.double xd), .second] [(.long xd.toInt64)]))
  exact own_retJ X2 hx Bd.notSynchronized Bd.returns (hb hby own_d_jdk_117_23_11) (by decide) (by decide) ⟨rfl, N1, e2⟩
theorem own_ef8 (m : MethodId) (x0 : UInt64) (x1 : UInt64) : entryFrame m #[(.double x0), (.double x1)] 8 = mkF m 0 #[.val (.double x0), .second, .val (.double x1), .second, .unset, .unset, .unset, .unset] [] := by first | (simp [entryFrame, mkF, argsToLocals, Value.category]; done) | rfl
theorem own_d_jdk_117_27_0 : decode jdk_117_method_27_code 0 = .ok (.dload_n 0, 1) := by decide +kernel
theorem own_d_jdk_117_27_1 : decode jdk_117_method_27_code 1 = .ok (.dload_n 2, 1) := by decide +kernel
theorem own_d_jdk_117_27_2 : decode jdk_117_method_27_code 2 = .ok (.dcmp .g, 1) := by decide +kernel
theorem own_d_jdk_117_27_3 : decode jdk_117_method_27_code 3 = .ok (.ifCond .ge 5, 3) := by decide +kernel
theorem own_d_jdk_117_27_8 : decode jdk_117_method_27_code 8 = .ok (.dload_n 0, 1) := by decide +kernel
theorem own_d_jdk_117_27_9 : decode jdk_117_method_27_code 9 = .ok (.dload_n 2, 1) := by decide +kernel
theorem own_d_jdk_117_27_10 : decode jdk_117_method_27_code 10 = .ok (.dcmp .l, 1) := by decide +kernel
theorem own_d_jdk_117_27_11 : decode jdk_117_method_27_code 11 = .ok (.ifCond .le 5, 3) := by decide +kernel
theorem own_d_jdk_117_27_16 : decode jdk_117_method_27_code 16 = .ok (.dload_n 0, 1) := by decide +kernel
theorem own_d_jdk_117_27_17 : decode jdk_117_method_27_code 17 = .ok (.invokestatic 46, 3) := by decide +kernel
theorem own_pd2 : parseMethodDescriptor "(D)J" = some ⟨[.double], some .long⟩ := by decide +kernel
theorem own_d_jdk_117_27_20 : decode jdk_117_method_27_code 20 = .ok (.lstore 4, 2) := by decide +kernel
theorem own_d_jdk_117_27_22 : decode jdk_117_method_27_code 22 = .ok (.dload_n 2, 1) := by decide +kernel
theorem own_d_jdk_117_27_23 : decode jdk_117_method_27_code 23 = .ok (.invokestatic 46, 3) := by decide +kernel
theorem own_d_jdk_117_27_26 : decode jdk_117_method_27_code 26 = .ok (.lstore 6, 2) := by decide +kernel
theorem own_d_jdk_117_27_28 : decode jdk_117_method_27_code 28 = .ok (.lload 4, 2) := by decide +kernel
theorem own_d_jdk_117_27_30 : decode jdk_117_method_27_code 30 = .ok (.lload 6, 2) := by decide +kernel
theorem own_d_jdk_117_27_32 : decode jdk_117_method_27_code 32 = .ok (.lcmp, 1) := by decide +kernel
theorem own_d_jdk_117_27_33 : decode jdk_117_method_27_code 33 = .ok (.ifCond .ne 7, 3) := by decide +kernel
theorem own_d_jdk_117_27_36 : decode jdk_117_method_27_code 36 = .ok (.iconst 0, 1) := by decide +kernel
theorem own_d_jdk_117_27_37 : decode jdk_117_method_27_code 37 = .ok (.goto 16, 3) := by decide +kernel
theorem own_d_jdk_117_27_53 : decode jdk_117_method_27_code 53 = .ok (.ireturn, 1) := by decide +kernel
theorem own_d_jdk_117_27_40 : decode jdk_117_method_27_code 40 = .ok (.lload 4, 2) := by decide +kernel
theorem own_d_jdk_117_27_42 : decode jdk_117_method_27_code 42 = .ok (.lload 6, 2) := by decide +kernel
theorem own_d_jdk_117_27_44 : decode jdk_117_method_27_code 44 = .ok (.lcmp, 1) := by decide +kernel
theorem own_d_jdk_117_27_45 : decode jdk_117_method_27_code 45 = .ok (.ifCond .ge 7, 3) := by decide +kernel
theorem own_d_jdk_117_27_48 : decode jdk_117_method_27_code 48 = .ok (.iconst (-1), 1) := by decide +kernel
theorem own_d_jdk_117_27_49 : decode jdk_117_method_27_code 49 = .ok (.goto 4, 3) := by decide +kernel
theorem own_d_jdk_117_27_52 : decode jdk_117_method_27_code 52 = .ok (.iconst 1, 1) := by decide +kernel
def own_Q_own_cmp (Z : State) (xc xd : UInt64) (h0 : Heap) (n0 : Nat) (v : Option Value) (h : Heap) (L : List Loc) : Prop := ∃ z, v = some (.int z) ∧ Fr n0 L ∧ h = h0
set_option maxRecDepth 65536 in
set_option maxHeartbeats 40000000 in
theorem own_cmp (l : Launch) (Z : State) (a0 : Array Value) (hw : ∀ d ∈ tables_1, d.before a0 Z = true) (ws : List Jvm.Cond) (xc xd : UInt64) (h0 : Heap) (n0 : Nat) (Z0 : n0 ≤ h0.size) (l1 : own_like xc 0) (l2 : own_like xd 0) :
    MetFree l (⟨"java/lang/Double", "compare", "(DD)I"⟩ : MethodName) (head1 (Jvm.Cond.code (⟨"java/lang/Double", "compare", "(DD)I"⟩ : MethodName) jdk_117_method_27_code 8 (some .int) :: ws) ({ frames := 2, cells := 0, slots := 0, locals := 28 } : Room)) (fun av_ U => av_ = #[(.double xc), (.double xd)] ∧ Z.Warmed39 U.vm ∧ U.heap = h0) (fun _ _ _ _ _ => True) (fun _ U o U' => ∃ v L, o = .returned v ∧ own_Q_own_cmp Z xc xd h0 n0 v U'.heap L ∧ FrameEnd U o U' L ({ frames := 2, cells := 0, slots := 0, locals := 28 } : Room).cells ({ frames := 2, cells := 0, slots := 0, locals := 28 } : Room).slots) := by
  refine MetFree.of_bodySF (plainFor_of_name own_pn2) hisR ?_
  intro p e s m args below meth c s₁ Bd hml0 hP hK
  obtain ⟨rfl, hZ, hh⟩ := hP
  have hx := Bd.exec
  have hby := Bd.bytes
  have hml : c.maxLocals = 8 := hml0
  have hown : s.vm.findClass "java/lang/Double" = some m.cls := findClass_of_methodNamed Bd.named
  have hnm := (name_of_methodNamed Bd.named Bd.method).1
  have X0 : Stand p l e ({ frames := 2, cells := 0, slots := 0, locals := 28 } : Room) s m #[(.double xc), (.double xd)] below meth c s₁ [] 0 0 := Stand.of_body Bd
  have e0 : s₁.heap = h0 := by rw [← hh, Bd.state]; rfl
  have N0 := Fr.nil n0
  suffices hgo : own_Go p e below (fun o U' => ∃ v L, o = .returned v ∧ own_Q_own_cmp Z xc xd h0 n0 v U'.heap L ∧ FrameEnd s o U' L ({ frames := 2, cells := 0, slots := 0, locals := 28 } : Room).cells ({ frames := 2, cells := 0, slots := 0, locals := 28 } : Room).slots) (s₁.setTop (mkF m 0 #[.val (.double xc), .second, .val (.double xd), .second, .unset, .unset, .unset, .unset] [])) by
    obtain ⟨s₂, o, h1, h2, h3, h4⟩ := hgo
    exact ⟨s₂, o, castTop (own_ef8 m xc xd) h1, h2, h3, h4⟩
  show own_Go p e below _ (s₁.setTop (mkF m 0 #[.val (.double xc), .second, .val (.double xd), .second, .unset, .unset, .unset, .unset] []))
  have bz : B53 (0 : Int64) := ⟨by decide, by decide⟩
  refine own_Go.st (fun _ kt => XS.dloadN X0.here hx rfl (hb hby own_d_jdk_117_27_0) rfl kt) ?_
  show own_Go p e below _ (s₁.setTop (mkF m 1 #[.val (.double xc), .second, .val (.double xd), .second, .unset, .unset, .unset, .unset] [(.double xc)]))
  refine own_Go.st (fun _ kt => XS.dloadN X0.here hx rfl (hb hby own_d_jdk_117_27_1) rfl kt) ?_
  show own_Go p e below _ (s₁.setTop (mkF m 2 #[.val (.double xc), .second, .val (.double xd), .second, .unset, .unset, .unset, .unset] [(.double xd), (.double xc)]))
  refine own_Go.st (fun _ kt => XS.dcmpS X0.here hx rfl (hb hby own_d_jdk_117_27_2) rfl ((own_like_cmp l1 l2 bz bz _).trans (show lcmpW 0 0 = (0 : Int32) by decide)) kt) ?_
  show own_Go p e below _ (s₁.setTop (mkF m 3 #[.val (.double xc), .second, .val (.double xd), .second, .unset, .unset, .unset, .unset] [(.int (0 : Int32))]))
  refine own_Go.st (fun _ kt => XS.ifYes X0.here hx rfl (pc0 := 3) (pc' := 8) rfl (hb hby own_d_jdk_117_27_3) rfl ((if0 _ _).trans (flt (by decide)).2.1) (by decide) (by decide) kt) ?_
  show own_Go p e below _ (s₁.setTop (mkF m 8 #[.val (.double xc), .second, .val (.double xd), .second, .unset, .unset, .unset, .unset] []))
  refine own_Go.st (fun _ kt => XS.dloadN X0.here hx rfl (hb hby own_d_jdk_117_27_8) rfl kt) ?_
  show own_Go p e below _ (s₁.setTop (mkF m 9 #[.val (.double xc), .second, .val (.double xd), .second, .unset, .unset, .unset, .unset] [(.double xc)]))
  refine own_Go.st (fun _ kt => XS.dloadN X0.here hx rfl (hb hby own_d_jdk_117_27_9) rfl kt) ?_
  show own_Go p e below _ (s₁.setTop (mkF m 10 #[.val (.double xc), .second, .val (.double xd), .second, .unset, .unset, .unset, .unset] [(.double xd), (.double xc)]))
  refine own_Go.st (fun _ kt => XS.dcmpS X0.here hx rfl (hb hby own_d_jdk_117_27_10) rfl ((own_like_cmp l1 l2 bz bz _).trans (show lcmpW 0 0 = (0 : Int32) by decide)) kt) ?_
  show own_Go p e below _ (s₁.setTop (mkF m 11 #[.val (.double xc), .second, .val (.double xd), .second, .unset, .unset, .unset, .unset] [(.int (0 : Int32))]))
  refine own_Go.st (fun _ kt => XS.ifYes X0.here hx rfl (pc0 := 11) (pc' := 16) rfl (hb hby own_d_jdk_117_27_11) rfl ((if0 _ _).trans (flt (by decide)).2.2.2) (by decide) (by decide) kt) ?_
  show own_Go p e below _ (s₁.setTop (mkF m 16 #[.val (.double xc), .second, .val (.double xd), .second, .unset, .unset, .unset, .unset] []))
  refine own_Go.st (fun _ kt => XS.dloadN X0.here hx rfl (hb hby own_d_jdk_117_27_16) rfl kt) ?_
  show own_Go p e below _ (s₁.setTop (mkF m 17 #[.val (.double xc), .second, .val (.double xd), .second, .unset, .unset, .unset, .unset] [(.double xc)]))
  obtain ⟨_, _, ⟨T1, L1, k1, n1⟩, -, X1, ⟨Lc1, hQ1, l1, y1, z1⟩, st1⟩ := Jvm.LawKit.callS X0 hx (y := (⟨"java/lang/Double", "doubleToLongBits", "(D)J"⟩ : MethodName)) hown (mvT hZ (hw _ (List.mem_of_getElem? (i := 60) rfl))) (mvT hZ (hw _ (List.mem_of_getElem? (i := 61) rfl))) (mvT hZ (hw _ (List.mem_of_getElem? (i := 28) rfl))) (mvT hZ (hw _ (List.mem_of_getElem? (i := 62) rfl))) (by decide) (backOf (W := 0) (own_bits l Z a0 hw [] xc h0 n0 Z0 (own_like_nn l1)) hZ (hw _ (List.mem_of_getElem? (i := 62) rfl)) (hw _ (List.mem_of_getElem? (i := 28) rfl)) (by decide) (by decide)) (g := (mkF m 17 #[.val (.double xc), .second, .val (.double xd), .second, .unset, .unset, .unset, .unset] [(.double xc)])) rfl (by rw [hml]; rfl) (argsL := [(.double xc)]) (rest := []) (lenOf own_pd2 rfl) rfl (by show 2 * 0 + _ ≤ _; exact Nat.le_of_eq rfl) (hb hby own_d_jdk_117_27_17) (fun _ _ => ⟨rfl, e0, (by decide : 0 + 0 ≤ _), (by decide : 0 + 0 ≤ _)⟩)
  dsimp only [Pt.U, Pt.locs, Pt.cells, Pt.slots] at X1 l1 y1 z1 st1 hQ1
  subst l1 y1 z1
  obtain ⟨rfl, N1q, hh1⟩ := hQ1
  have N1 := Fr.app N0 N1q
  refine own_Go.st (fun _ kt => st1 _ kt) ?_
  show own_Go p e below _ (T1.setTop (mkF m 20 #[.val (.double xc), .second, .val (.double xd), .second, .unset, .unset, .unset, .unset] [(.long xc.toInt64)]))
  refine own_Go.st (fun _ kt => XS.lstore X1.here hx rfl (hb hby own_d_jdk_117_27_20) rfl (l' := #[.val (.double xc), .second, .val (.double xd), .second, .val (.long xc.toInt64), .second, .unset, .unset]) rfl kt) ?_
  show own_Go p e below _ (T1.setTop (mkF m 22 #[.val (.double xc), .second, .val (.double xd), .second, .val (.long xc.toInt64), .second, .unset, .unset] []))
  refine own_Go.st (fun _ kt => XS.dloadN X1.here hx rfl (hb hby own_d_jdk_117_27_22) rfl kt) ?_
  show own_Go p e below _ (T1.setTop (mkF m 23 #[.val (.double xc), .second, .val (.double xd), .second, .val (.long xc.toInt64), .second, .unset, .unset] [(.double xd)]))
  obtain ⟨_, _, ⟨T2, L2, k2, n2⟩, -, X2, ⟨Lc2, hQ2, l2, y2, z2⟩, st2⟩ := Jvm.LawKit.callS X1 hx (y := (⟨"java/lang/Double", "doubleToLongBits", "(D)J"⟩ : MethodName)) hown (mvT hZ (hw _ (List.mem_of_getElem? (i := 60) rfl))) (mvT hZ (hw _ (List.mem_of_getElem? (i := 61) rfl))) (mvT hZ (hw _ (List.mem_of_getElem? (i := 28) rfl))) (mvT hZ (hw _ (List.mem_of_getElem? (i := 62) rfl))) (by decide) (backOf (W := 0) (own_bits l Z a0 hw [] xd h0 n0 Z0 (own_like_nn l2)) hZ (hw _ (List.mem_of_getElem? (i := 62) rfl)) (hw _ (List.mem_of_getElem? (i := 28) rfl)) (by decide) (by decide)) (g := (mkF m 23 #[.val (.double xc), .second, .val (.double xd), .second, .val (.long xc.toInt64), .second, .unset, .unset] [(.double xd)])) rfl (by rw [hml]; rfl) (argsL := [(.double xd)]) (rest := []) (lenOf own_pd2 rfl) rfl (by show 2 * 0 + _ ≤ _; exact Nat.le_of_eq rfl) (hb hby own_d_jdk_117_27_23) (fun _ _ => ⟨rfl, hh1, (by decide : 0 + 0 ≤ _), (by decide : 0 + 0 ≤ _)⟩)
  dsimp only [Pt.U, Pt.locs, Pt.cells, Pt.slots] at X2 l2 y2 z2 st2 hQ2
  subst l2 y2 z2
  obtain ⟨rfl, N2q, hh2⟩ := hQ2
  have N2 := Fr.app N1 N2q
  refine own_Go.st (fun _ kt => st2 _ kt) ?_
  show own_Go p e below _ (T2.setTop (mkF m 26 #[.val (.double xc), .second, .val (.double xd), .second, .val (.long xc.toInt64), .second, .unset, .unset] [(.long xd.toInt64)]))
  refine own_Go.st (fun _ kt => XS.lstore X2.here hx rfl (hb hby own_d_jdk_117_27_26) rfl (l' := #[.val (.double xc), .second, .val (.double xd), .second, .val (.long xc.toInt64), .second, .val (.long xd.toInt64), .second]) rfl kt) ?_
  show own_Go p e below _ (T2.setTop (mkF m 28 #[.val (.double xc), .second, .val (.double xd), .second, .val (.long xc.toInt64), .second, .val (.long xd.toInt64), .second] []))
  refine own_Go.st (fun _ kt => XS.lload X2.here hx rfl (hb hby own_d_jdk_117_27_28) rfl kt) ?_
  show own_Go p e below _ (T2.setTop (mkF m 30 #[.val (.double xc), .second, .val (.double xd), .second, .val (.long xc.toInt64), .second, .val (.long xd.toInt64), .second] [(.long xc.toInt64)]))
  refine own_Go.st (fun _ kt => XS.lload X2.here hx rfl (hb hby own_d_jdk_117_27_30) rfl kt) ?_
  show own_Go p e below _ (T2.setTop (mkF m 32 #[.val (.double xc), .second, .val (.double xd), .second, .val (.long xc.toInt64), .second, .val (.long xd.toInt64), .second] [(.long xd.toInt64), (.long xc.toInt64)]))
  refine own_Go.st (fun _ kt => XS.lcmp X2.here hx rfl (hb hby own_d_jdk_117_27_32) rfl kt) ?_
  show own_Go p e below _ (T2.setTop (mkF m 33 #[.val (.double xc), .second, .val (.double xd), .second, .val (.long xc.toInt64), .second, .val (.long xd.toInt64), .second] [(.int (lcmpW xc.toInt64 xd.toInt64))]))
  by_cases hc33 : xc.toInt64 = xd.toInt64
  · refine own_Go.st (fun _ kt => XS.ifNo X2.here hx rfl (hb hby own_d_jdk_117_27_33) rfl ((if0 _ _).trans (teq ((lw_eq _ _).mpr hc33)).2) kt) ?_
    show own_Go p e below _ (T2.setTop (mkF m 36 #[.val (.double xc), .second, .val (.double xd), .second, .val (.long xc.toInt64), .second, .val (.long xd.toInt64), .second] []))
    refine own_Go.st (fun _ kt => XS.iconst X2.here hx rfl (hb hby own_d_jdk_117_27_36) kt) ?_
    show own_Go p e below _ (T2.setTop (mkF m 37 #[.val (.double xc), .second, .val (.double xd), .second, .val (.long xc.toInt64), .second, .val (.long xd.toInt64), .second] [(.int (0 : Int32))]))
    refine own_Go.st (fun _ kt => XS.goto X2.here hx rfl (pc0 := 37) (pc' := 53) rfl (hb hby own_d_jdk_117_27_37) (by decide) (by decide) kt) ?_
    show own_Go p e below _ (T2.setTop (mkF m 53 #[.val (.double xc), .second, .val (.double xd), .second, .val (.long xc.toInt64), .second, .val (.long xd.toInt64), .second] [(.int (0 : Int32))]))
    exact own_retI X2 hx Bd.notSynchronized Bd.returns (hb hby own_d_jdk_117_27_53) (by decide) (by decide) ⟨_, rfl, N2, hh2⟩
  · refine own_Go.st (fun _ kt => XS.ifYes X2.here hx rfl (pc0 := 33) (pc' := 40) rfl (hb hby own_d_jdk_117_27_33) rfl ((if0 _ _).trans (feq (mt (lw_eq _ _).mp hc33)).2) (by decide) (by decide) kt) ?_
    show own_Go p e below _ (T2.setTop (mkF m 40 #[.val (.double xc), .second, .val (.double xd), .second, .val (.long xc.toInt64), .second, .val (.long xd.toInt64), .second] []))
    refine own_Go.st (fun _ kt => XS.lload X2.here hx rfl (hb hby own_d_jdk_117_27_40) rfl kt) ?_
    show own_Go p e below _ (T2.setTop (mkF m 42 #[.val (.double xc), .second, .val (.double xd), .second, .val (.long xc.toInt64), .second, .val (.long xd.toInt64), .second] [(.long xc.toInt64)]))
    refine own_Go.st (fun _ kt => XS.lload X2.here hx rfl (hb hby own_d_jdk_117_27_42) rfl kt) ?_
    show own_Go p e below _ (T2.setTop (mkF m 44 #[.val (.double xc), .second, .val (.double xd), .second, .val (.long xc.toInt64), .second, .val (.long xd.toInt64), .second] [(.long xd.toInt64), (.long xc.toInt64)]))
    refine own_Go.st (fun _ kt => XS.lcmp X2.here hx rfl (hb hby own_d_jdk_117_27_44) rfl kt) ?_
    show own_Go p e below _ (T2.setTop (mkF m 45 #[.val (.double xc), .second, .val (.double xd), .second, .val (.long xc.toInt64), .second, .val (.long xd.toInt64), .second] [(.int (lcmpW xc.toInt64 xd.toInt64))]))
    by_cases hc45 : xc.toInt64 < xd.toInt64
    · refine own_Go.st (fun _ kt => XS.ifNo X2.here hx rfl (hb hby own_d_jdk_117_27_45) rfl ((if0 _ _).trans (tlt ((lw_lt _ _).mpr hc45)).2.1) kt) ?_
      show own_Go p e below _ (T2.setTop (mkF m 48 #[.val (.double xc), .second, .val (.double xd), .second, .val (.long xc.toInt64), .second, .val (.long xd.toInt64), .second] []))
      refine own_Go.st (fun _ kt => XS.iconst X2.here hx rfl (hb hby own_d_jdk_117_27_48) kt) ?_
      show own_Go p e below _ (T2.setTop (mkF m 49 #[.val (.double xc), .second, .val (.double xd), .second, .val (.long xc.toInt64), .second, .val (.long xd.toInt64), .second] [(.int (-1 : Int32))]))
      refine own_Go.st (fun _ kt => XS.goto X2.here hx rfl (pc0 := 49) (pc' := 53) rfl (hb hby own_d_jdk_117_27_49) (by decide) (by decide) kt) ?_
      show own_Go p e below _ (T2.setTop (mkF m 53 #[.val (.double xc), .second, .val (.double xd), .second, .val (.long xc.toInt64), .second, .val (.long xd.toInt64), .second] [(.int (-1 : Int32))]))
      exact own_retI X2 hx Bd.notSynchronized Bd.returns (hb hby own_d_jdk_117_27_53) (by decide) (by decide) ⟨_, rfl, N2, hh2⟩
    · refine own_Go.st (fun _ kt => XS.ifYes X2.here hx rfl (pc0 := 45) (pc' := 52) rfl (hb hby own_d_jdk_117_27_45) rfl ((if0 _ _).trans (flt (mt (lw_lt _ _).mp hc45)).2.1) (by decide) (by decide) kt) ?_
      show own_Go p e below _ (T2.setTop (mkF m 52 #[.val (.double xc), .second, .val (.double xd), .second, .val (.long xc.toInt64), .second, .val (.long xd.toInt64), .second] []))
      refine own_Go.st (fun _ kt => XS.iconst X2.here hx rfl (hb hby own_d_jdk_117_27_52) kt) ?_
      show own_Go p e below _ (T2.setTop (mkF m 53 #[.val (.double xc), .second, .val (.double xd), .second, .val (.long xc.toInt64), .second, .val (.long xd.toInt64), .second] [(.int (1 : Int32))]))
      exact own_retI X2 hx Bd.notSynchronized Bd.returns (hb hby own_d_jdk_117_27_53) (by decide) (by decide) ⟨_, rfl, N2, hh2⟩
theorem own_pn3 : plainName "com/example/thicket/thicket/Rect" = true := by first | (simp [plainName, overriddenIn]; done) | decide +kernel
theorem own_ef9 (m : MethodId) (x0 : Addr) (x1 : UInt64) (x2 : UInt64) (x3 : UInt64) (x4 : UInt64) : entryFrame m #[(.ref x0), (.double x1), (.double x2), (.double x3), (.double x4)] 9 = mkF m 0 #[.val (.ref x0), .val (.double x1), .second, .val (.double x2), .second, .val (.double x3), .second, .val (.double x4), .second] [] := by first | (simp [entryFrame, mkF, argsToLocals, Value.category]; done) | rfl
theorem own_d_prog_91_1_0 : decode prog_91_method_1_code 0 = .ok (.aload_n 0, 1) := by decide +kernel
theorem own_d_prog_91_1_1 : decode prog_91_method_1_code 1 = .ok (.invokespecial 1, 3) := by decide +kernel
theorem own_pd3 : parseMethodDescriptor "()V" = some ⟨[], none⟩ := by decide +kernel
theorem own_d_prog_91_1_4 : decode prog_91_method_1_code 4 = .ok (.dload_n 1, 1) := by decide +kernel
theorem own_d_prog_91_1_5 : decode prog_91_method_1_code 5 = .ok (.invokestatic 7, 3) := by decide +kernel
theorem own_d_prog_91_1_8 : decode prog_91_method_1_code 8 = .ok (.ifCond .eq 26, 3) := by decide +kernel
theorem own_d_prog_91_1_11 : decode prog_91_method_1_code 11 = .ok (.dload_n 3, 1) := by decide +kernel
theorem own_d_prog_91_1_12 : decode prog_91_method_1_code 12 = .ok (.invokestatic 7, 3) := by decide +kernel
theorem own_d_prog_91_1_15 : decode prog_91_method_1_code 15 = .ok (.ifCond .eq 19, 3) := by decide +kernel
theorem own_d_prog_91_1_18 : decode prog_91_method_1_code 18 = .ok (.dload 5, 2) := by decide +kernel
theorem own_d_prog_91_1_20 : decode prog_91_method_1_code 20 = .ok (.invokestatic 7, 3) := by decide +kernel
theorem own_d_prog_91_1_23 : decode prog_91_method_1_code 23 = .ok (.ifCond .eq 11, 3) := by decide +kernel
theorem own_d_prog_91_1_26 : decode prog_91_method_1_code 26 = .ok (.dload 7, 2) := by decide +kernel
theorem own_d_prog_91_1_28 : decode prog_91_method_1_code 28 = .ok (.invokestatic 7, 3) := by decide +kernel
theorem own_d_prog_91_1_31 : decode prog_91_method_1_code 31 = .ok (.ifCond .ne 13, 3) := by decide +kernel
theorem own_d_prog_91_1_44 : decode prog_91_method_1_code 44 = .ok (.dload_n 1, 1) := by decide +kernel
theorem own_d_prog_91_1_45 : decode prog_91_method_1_code 45 = .ok (.dload 5, 2) := by decide +kernel
theorem own_d_prog_91_1_47 : decode prog_91_method_1_code 47 = .ok (.dcmp .l, 1) := by decide +kernel
theorem own_d_prog_91_1_48 : decode prog_91_method_1_code 48 = .ok (.ifCond .le 19, 3) := by decide +kernel
theorem own_d_prog_91_1_67 : decode prog_91_method_1_code 67 = .ok (.dload_n 3, 1) := by decide +kernel
theorem own_d_prog_91_1_68 : decode prog_91_method_1_code 68 = .ok (.dload 7, 2) := by decide +kernel
theorem own_d_prog_91_1_70 : decode prog_91_method_1_code 70 = .ok (.dcmp .l, 1) := by decide +kernel
theorem own_d_prog_91_1_71 : decode prog_91_method_1_code 71 = .ok (.ifCond .le 19, 3) := by decide +kernel
theorem own_d_prog_91_1_148 : decode prog_91_method_1_code 148 = .ok (.aload_n 0, 1) := by decide +kernel
theorem own_d_prog_91_1_149 : decode prog_91_method_1_code 149 = .ok (.dload_n 1, 1) := by decide +kernel
theorem own_d_prog_91_1_150 : decode prog_91_method_1_code 150 = .ok (.putfield 31, 3) := by decide +kernel
theorem own_d_prog_91_1_153 : decode prog_91_method_1_code 153 = .ok (.aload_n 0, 1) := by decide +kernel
theorem own_d_prog_91_1_154 : decode prog_91_method_1_code 154 = .ok (.dload_n 3, 1) := by decide +kernel
theorem own_d_prog_91_1_155 : decode prog_91_method_1_code 155 = .ok (.putfield 37, 3) := by decide +kernel
theorem own_d_prog_91_1_158 : decode prog_91_method_1_code 158 = .ok (.aload_n 0, 1) := by decide +kernel
theorem own_d_prog_91_1_159 : decode prog_91_method_1_code 159 = .ok (.dload 5, 2) := by decide +kernel
theorem own_d_prog_91_1_161 : decode prog_91_method_1_code 161 = .ok (.putfield 40, 3) := by decide +kernel
theorem own_d_prog_91_1_164 : decode prog_91_method_1_code 164 = .ok (.aload_n 0, 1) := by decide +kernel
theorem own_d_prog_91_1_165 : decode prog_91_method_1_code 165 = .ok (.dload 7, 2) := by decide +kernel
theorem own_d_prog_91_1_167 : decode prog_91_method_1_code 167 = .ok (.putfield 43, 3) := by decide +kernel
theorem own_d_prog_91_1_170 : decode prog_91_method_1_code 170 = .ok (.return_, 1) := by decide +kernel
theorem own_d_prog_91_1_119 : decode prog_91_method_1_code 119 = .ok (.dload_n 3, 1) := by decide +kernel
theorem own_d_prog_91_1_120 : decode prog_91_method_1_code 120 = .ok (.dconst 0, 1) := by decide +kernel
theorem own_d_prog_91_1_121 : decode prog_91_method_1_code 121 = .ok (.dcmp .l, 1) := by decide +kernel
theorem own_d_prog_91_1_122 : decode prog_91_method_1_code 122 = .ok (.ifCond .ne 26, 3) := by decide +kernel
theorem own_d_prog_91_1_125 : decode prog_91_method_1_code 125 = .ok (.dload 7, 2) := by decide +kernel
theorem own_d_prog_91_1_127 : decode prog_91_method_1_code 127 = .ok (.dconst 0, 1) := by decide +kernel
theorem own_d_prog_91_1_128 : decode prog_91_method_1_code 128 = .ok (.dcmp .l, 1) := by decide +kernel
theorem own_d_prog_91_1_129 : decode prog_91_method_1_code 129 = .ok (.ifCond .ne 19, 3) := by decide +kernel
theorem own_d_prog_91_1_132 : decode prog_91_method_1_code 132 = .ok (.dload_n 3, 1) := by decide +kernel
theorem own_d_prog_91_1_133 : decode prog_91_method_1_code 133 = .ok (.dload 7, 2) := by decide +kernel
theorem own_d_prog_91_1_135 : decode prog_91_method_1_code 135 = .ok (.invokestatic 25, 3) := by decide +kernel
theorem own_pd4 : parseMethodDescriptor "(DD)I" = some ⟨[.double, .double], some .int⟩ := by decide +kernel
theorem own_d_prog_91_1_138 : decode prog_91_method_1_code 138 = .ok (.ifCond .le 10, 3) := by decide +kernel
theorem own_d_prog_91_1_141 : decode prog_91_method_1_code 141 = .ok (.ldc2_w 29, 3) := by decide +kernel
theorem own_d_prog_91_1_144 : decode prog_91_method_1_code 144 = .ok (.dstore_n 3, 1) := by decide +kernel
theorem own_d_prog_91_1_145 : decode prog_91_method_1_code 145 = .ok (.dconst 0, 1) := by decide +kernel
theorem own_d_prog_91_1_146 : decode prog_91_method_1_code 146 = .ok (.dstore 7, 2) := by decide +kernel
theorem own_d_prog_91_1_90 : decode prog_91_method_1_code 90 = .ok (.dload_n 1, 1) := by decide +kernel
theorem own_d_prog_91_1_91 : decode prog_91_method_1_code 91 = .ok (.dconst 0, 1) := by decide +kernel
theorem own_d_prog_91_1_92 : decode prog_91_method_1_code 92 = .ok (.dcmp .l, 1) := by decide +kernel
theorem own_d_prog_91_1_93 : decode prog_91_method_1_code 93 = .ok (.ifCond .ne 26, 3) := by decide +kernel
theorem own_d_prog_91_1_96 : decode prog_91_method_1_code 96 = .ok (.dload 5, 2) := by decide +kernel
theorem own_d_prog_91_1_98 : decode prog_91_method_1_code 98 = .ok (.dconst 0, 1) := by decide +kernel
theorem own_d_prog_91_1_99 : decode prog_91_method_1_code 99 = .ok (.dcmp .l, 1) := by decide +kernel
theorem own_d_prog_91_1_100 : decode prog_91_method_1_code 100 = .ok (.ifCond .ne 19, 3) := by decide +kernel
theorem own_d_prog_91_1_103 : decode prog_91_method_1_code 103 = .ok (.dload_n 1, 1) := by decide +kernel
theorem own_d_prog_91_1_104 : decode prog_91_method_1_code 104 = .ok (.dload 5, 2) := by decide +kernel
theorem own_d_prog_91_1_106 : decode prog_91_method_1_code 106 = .ok (.invokestatic 25, 3) := by decide +kernel
theorem own_d_prog_91_1_109 : decode prog_91_method_1_code 109 = .ok (.ifCond .le 10, 3) := by decide +kernel
theorem own_d_prog_91_1_112 : decode prog_91_method_1_code 112 = .ok (.ldc2_w 29, 3) := by decide +kernel
theorem own_d_prog_91_1_115 : decode prog_91_method_1_code 115 = .ok (.dstore_n 1, 1) := by decide +kernel
theorem own_d_prog_91_1_116 : decode prog_91_method_1_code 116 = .ok (.dconst 0, 1) := by decide +kernel
theorem own_d_prog_91_1_117 : decode prog_91_method_1_code 117 = .ok (.dstore 5, 2) := by decide +kernel
def own_Q_own_rinit (Z : State) (ao : Addr) (x1 x2 x3 x4 : UInt64) (a1 a2 a3 a4 : Int64) (h0 : Heap) (n0 : Nat) (v : Option Value) (h : Heap) (L : List Loc) : Prop := v = none ∧ Fr n0 L ∧ Exa Z h ao "com/example/thicket/thicket/Rect" ∧ ∃ y1 y2 y3 y4, own_like y1 a1 ∧ own_like y2 a2 ∧ own_like y3 a3 ∧ own_like y4 a4 ∧ Fld Z h ao "com/example/thicket/thicket/Rect" "minX" "D" (.double y1) ∧ Fld Z h ao "com/example/thicket/thicket/Rect" "minY" "D" (.double y2) ∧ Fld Z h ao "com/example/thicket/thicket/Rect" "maxX" "D" (.double y3) ∧ Fld Z h ao "com/example/thicket/thicket/Rect" "maxY" "D" (.double y4) ∧ Keep h0 h [ao]
set_option maxRecDepth 65536 in
set_option maxHeartbeats 40000000 in
theorem own_rinit (l : Launch) (Z : State) (a0 : Array Value) (hw : ∀ d ∈ tables_1, d.before a0 Z = true) (ws : List Jvm.Cond) (ao : Addr) (x1 x2 x3 x4 : UInt64) (a1 a2 a3 a4 : Int64) (h0 : Heap) (n0 : Nat) (Z0 : n0 ≤ h0.size) (EO : Exa Z h0 ao "com/example/thicket/thicket/Rect") (F_minX : Fld Z h0 ao "com/example/thicket/thicket/Rect" "minX" "D" (.double 0)) (F_minY : Fld Z h0 ao "com/example/thicket/thicket/Rect" "minY" "D" (.double 0)) (F_maxX : Fld Z h0 ao "com/example/thicket/thicket/Rect" "maxX" "D" (.double 0)) (F_maxY : Fld Z h0 ao "com/example/thicket/thicket/Rect" "maxY" "D" (.double 0)) (ga : n0 ≤ ao) (l1 : own_like x1 a1) (b1 : B53 a1) (l2 : own_like x2 a2) (b2 : B53 a2) (l3 : own_like x3 a3) (b3 : B53 a3) (l4 : own_like x4 a4) (b4 : B53 a4) (hx13 : ¬ a3 < a1) (hx24 : ¬ a4 < a2) :
    MetFree l (⟨"com/example/thicket/thicket/Rect", "<init>", "(DDDD)V"⟩ : MethodName) (head1 (Jvm.Cond.code (⟨"com/example/thicket/thicket/Rect", "<init>", "(DDDD)V"⟩ : MethodName) prog_91_method_1_code 9 none :: ws) ({ frames := 3, cells := 0, slots := 0, locals := 47 } : Room)) (fun av_ U => av_ = #[(.ref ao), (.double x1), (.double x2), (.double x3), (.double x4)] ∧ Z.Warmed39 U.vm ∧ U.heap = h0) (fun _ _ _ _ _ => True) (fun _ U o U' => ∃ v L, o = .returned v ∧ own_Q_own_rinit Z ao x1 x2 x3 x4 a1 a2 a3 a4 h0 n0 v U'.heap L ∧ FrameEnd U o U' L ({ frames := 3, cells := 0, slots := 0, locals := 47 } : Room).cells ({ frames := 3, cells := 0, slots := 0, locals := 47 } : Room).slots) := by
  refine MetFree.of_bodySF (plainFor_of_name own_pn3) hisR ?_
  intro p e s m args below meth c s₁ Bd hml0 hP hK
  obtain ⟨rfl, hZ, hh⟩ := hP
  have hx := Bd.exec
  have hby := Bd.bytes
  have hml : c.maxLocals = 9 := hml0
  have hown : s.vm.findClass "com/example/thicket/thicket/Rect" = some m.cls := findClass_of_methodNamed Bd.named
  have hnm := (name_of_methodNamed Bd.named Bd.method).1
  have X0 : Stand p l e ({ frames := 3, cells := 0, slots := 0, locals := 47 } : Room) s m #[(.ref ao), (.double x1), (.double x2), (.double x3), (.double x4)] below meth c s₁ [] 0 0 := Stand.of_body Bd
  have e0 : s₁.heap = h0 := by rw [← hh, Bd.state]; rfl
  have N0 := Fr.nil n0
  suffices hgo : own_Go p e below (fun o U' => ∃ v L, o = .returned v ∧ own_Q_own_rinit Z ao x1 x2 x3 x4 a1 a2 a3 a4 h0 n0 v U'.heap L ∧ FrameEnd s o U' L ({ frames := 3, cells := 0, slots := 0, locals := 47 } : Room).cells ({ frames := 3, cells := 0, slots := 0, locals := 47 } : Room).slots) (s₁.setTop (mkF m 0 #[.val (.ref ao), .val (.double x1), .second, .val (.double x2), .second, .val (.double x3), .second, .val (.double x4), .second] [])) by
    obtain ⟨s₂, o, h1, h2, h3, h4⟩ := hgo
    exact ⟨s₂, o, castTop (own_ef9 m ao x1 x2 x3 x4) h1, h2, h3, h4⟩
  have kk0 : Keep h0 h0 [ao] := Keep.refl _ _
  show own_Go p e below _ (s₁.setTop (mkF m 0 #[.val (.ref ao), .val (.double x1), .second, .val (.double x2), .second, .val (.double x3), .second, .val (.double x4), .second] []))
  have bz : B53 (0 : Int64) := ⟨by decide, by decide⟩
  refine own_Go.st (fun _ kt => XS.aloadN X0.here hx rfl (hb hby own_d_prog_91_1_0) rfl rfl kt) ?_
  show own_Go p e below _ (s₁.setTop (mkF m 1 #[.val (.ref ao), .val (.double x1), .second, .val (.double x2), .second, .val (.double x3), .second, .val (.double x4), .second] [(.ref ao)]))
  obtain ⟨_, _, ⟨T1, L1, k1, n1⟩, -, X1, ⟨Lc1, hQ1, l1, y1, z1⟩, st1⟩ := X0.specialBack hx (y := (⟨"java/lang/Record", "<init>", "()V"⟩ : MethodName)) rfl hown (mvT hZ (hw _ (List.mem_of_getElem? (i := 18) rfl))) (mvT hZ (hw _ (List.mem_of_getElem? (i := 19) rfl))) (mvT hZ (hw _ (List.mem_of_getElem? (i := 22) rfl))) (by decide) (backOf (W := 0) (own_recinit l Z a0 hw [] ao h0 n0 Z0 ) hZ (hw _ (List.mem_of_getElem? (i := 22) rfl)) (hw _ (List.mem_of_getElem? (i := 21) rfl)) (by decide) (by decide)) (g := (mkF m 1 #[.val (.ref ao), .val (.double x1), .second, .val (.double x2), .second, .val (.double x3), .second, .val (.double x4), .second] [(.ref ao)])) rfl (by rw [hml]; rfl) (Steps.refl _) (a := ao) (argsL := []) (rest := []) (lenOf own_pd3 rfl) rfl (by show 2 * 0 + _ ≤ _; exact Nat.le_of_eq rfl) (hb hby own_d_prog_91_1_1) (fun _ _ => ⟨rfl, e0, (by decide : 0 + 0 ≤ _), (by decide : 0 + 0 ≤ _)⟩)
  dsimp only [Pt.U, Pt.locs, Pt.cells, Pt.slots] at X1 l1 y1 z1 st1 hQ1
  subst l1 y1 z1
  obtain ⟨rfl, N1q, hh1⟩ := hQ1
  have N1 := Fr.app N0 N1q
  refine own_Go.st (fun _ kt => st1.trans kt) ?_
  show own_Go p e below _ (T1.setTop (mkF m 4 #[.val (.ref ao), .val (.double x1), .second, .val (.double x2), .second, .val (.double x3), .second, .val (.double x4), .second] []))
  refine own_Go.st (fun _ kt => XS.dloadN X1.here hx rfl (hb hby own_d_prog_91_1_4) rfl kt) ?_
  show own_Go p e below _ (T1.setTop (mkF m 5 #[.val (.ref ao), .val (.double x1), .second, .val (.double x2), .second, .val (.double x3), .second, .val (.double x4), .second] [(.double x1)]))
  obtain ⟨_, _, ⟨T2, L2, k2, n2⟩, -, X2, ⟨Lc2, hQ2, l2, y2, z2⟩, st2⟩ := Jvm.LawKit.callS X1 hx (y := (⟨"java/lang/Double", "isFinite", "(D)Z"⟩ : MethodName)) hown (mvT hZ (hw _ (List.mem_of_getElem? (i := 26) rfl))) (mvT hZ (hw _ (List.mem_of_getElem? (i := 27) rfl))) (mvT hZ (hw _ (List.mem_of_getElem? (i := 28) rfl))) (mvT hZ (hw _ (List.mem_of_getElem? (i := 29) rfl))) (by decide) (backOf (W := 0) (own_isfin l Z a0 hw [] x1 a1 h0 n0 Z0 l1) hZ (hw _ (List.mem_of_getElem? (i := 29) rfl)) (hw _ (List.mem_of_getElem? (i := 28) rfl)) (by decide) (by decide)) (g := (mkF m 5 #[.val (.ref ao), .val (.double x1), .second, .val (.double x2), .second, .val (.double x3), .second, .val (.double x4), .second] [(.double x1)])) rfl (by rw [hml]; rfl) (argsL := [(.double x1)]) (rest := []) (lenOf own_pd1 rfl) rfl (by show 2 * 0 + _ ≤ _; exact Nat.le_of_eq rfl) (hb hby own_d_prog_91_1_5) (fun _ _ => ⟨rfl, hh1, (by decide : 0 + 0 ≤ _), (by decide : 0 + 0 ≤ _)⟩)
  dsimp only [Pt.U, Pt.locs, Pt.cells, Pt.slots] at X2 l2 y2 z2 st2 hQ2
  subst l2 y2 z2
  obtain ⟨rfl, N2q, hh2⟩ := hQ2
  have N2 := Fr.app N1 N2q
  refine own_Go.st (fun _ kt => st2 _ kt) ?_
  show own_Go p e below _ (T2.setTop (mkF m 8 #[.val (.ref ao), .val (.double x1), .second, .val (.double x2), .second, .val (.double x3), .second, .val (.double x4), .second] [(.int (1 : Int32))]))
  refine own_Go.st (fun _ kt => XS.ifNo X2.here hx rfl (hb hby own_d_prog_91_1_8) rfl ((if0 _ _).trans (feq (by decide)).1) kt) ?_
  show own_Go p e below _ (T2.setTop (mkF m 11 #[.val (.ref ao), .val (.double x1), .second, .val (.double x2), .second, .val (.double x3), .second, .val (.double x4), .second] []))
  refine own_Go.st (fun _ kt => XS.dloadN X2.here hx rfl (hb hby own_d_prog_91_1_11) rfl kt) ?_
  show own_Go p e below _ (T2.setTop (mkF m 12 #[.val (.ref ao), .val (.double x1), .second, .val (.double x2), .second, .val (.double x3), .second, .val (.double x4), .second] [(.double x2)]))
  obtain ⟨_, _, ⟨T3, L3, k3, n3⟩, -, X3, ⟨Lc3, hQ3, l3, y3, z3⟩, st3⟩ := Jvm.LawKit.callS X2 hx (y := (⟨"java/lang/Double", "isFinite", "(D)Z"⟩ : MethodName)) hown (mvT hZ (hw _ (List.mem_of_getElem? (i := 26) rfl))) (mvT hZ (hw _ (List.mem_of_getElem? (i := 27) rfl))) (mvT hZ (hw _ (List.mem_of_getElem? (i := 28) rfl))) (mvT hZ (hw _ (List.mem_of_getElem? (i := 29) rfl))) (by decide) (backOf (W := 0) (own_isfin l Z a0 hw [] x2 a2 h0 n0 Z0 l2) hZ (hw _ (List.mem_of_getElem? (i := 29) rfl)) (hw _ (List.mem_of_getElem? (i := 28) rfl)) (by decide) (by decide)) (g := (mkF m 12 #[.val (.ref ao), .val (.double x1), .second, .val (.double x2), .second, .val (.double x3), .second, .val (.double x4), .second] [(.double x2)])) rfl (by rw [hml]; rfl) (argsL := [(.double x2)]) (rest := []) (lenOf own_pd1 rfl) rfl (by show 2 * 0 + _ ≤ _; exact Nat.le_of_eq rfl) (hb hby own_d_prog_91_1_12) (fun _ _ => ⟨rfl, hh2, (by decide : 0 + 0 ≤ _), (by decide : 0 + 0 ≤ _)⟩)
  dsimp only [Pt.U, Pt.locs, Pt.cells, Pt.slots] at X3 l3 y3 z3 st3 hQ3
  subst l3 y3 z3
  obtain ⟨rfl, N3q, hh3⟩ := hQ3
  have N3 := Fr.app N2 N3q
  refine own_Go.st (fun _ kt => st3 _ kt) ?_
  show own_Go p e below _ (T3.setTop (mkF m 15 #[.val (.ref ao), .val (.double x1), .second, .val (.double x2), .second, .val (.double x3), .second, .val (.double x4), .second] [(.int (1 : Int32))]))
  refine own_Go.st (fun _ kt => XS.ifNo X3.here hx rfl (hb hby own_d_prog_91_1_15) rfl ((if0 _ _).trans (feq (by decide)).1) kt) ?_
  show own_Go p e below _ (T3.setTop (mkF m 18 #[.val (.ref ao), .val (.double x1), .second, .val (.double x2), .second, .val (.double x3), .second, .val (.double x4), .second] []))
  refine own_Go.st (fun _ kt => XS.dload X3.here hx rfl (hb hby own_d_prog_91_1_18) rfl kt) ?_
  show own_Go p e below _ (T3.setTop (mkF m 20 #[.val (.ref ao), .val (.double x1), .second, .val (.double x2), .second, .val (.double x3), .second, .val (.double x4), .second] [(.double x3)]))
  obtain ⟨_, _, ⟨T4, L4, k4, n4⟩, -, X4, ⟨Lc4, hQ4, l4, y4, z4⟩, st4⟩ := Jvm.LawKit.callS X3 hx (y := (⟨"java/lang/Double", "isFinite", "(D)Z"⟩ : MethodName)) hown (mvT hZ (hw _ (List.mem_of_getElem? (i := 26) rfl))) (mvT hZ (hw _ (List.mem_of_getElem? (i := 27) rfl))) (mvT hZ (hw _ (List.mem_of_getElem? (i := 28) rfl))) (mvT hZ (hw _ (List.mem_of_getElem? (i := 29) rfl))) (by decide) (backOf (W := 0) (own_isfin l Z a0 hw [] x3 a3 h0 n0 Z0 l3) hZ (hw _ (List.mem_of_getElem? (i := 29) rfl)) (hw _ (List.mem_of_getElem? (i := 28) rfl)) (by decide) (by decide)) (g := (mkF m 20 #[.val (.ref ao), .val (.double x1), .second, .val (.double x2), .second, .val (.double x3), .second, .val (.double x4), .second] [(.double x3)])) rfl (by rw [hml]; rfl) (argsL := [(.double x3)]) (rest := []) (lenOf own_pd1 rfl) rfl (by show 2 * 0 + _ ≤ _; exact Nat.le_of_eq rfl) (hb hby own_d_prog_91_1_20) (fun _ _ => ⟨rfl, hh3, (by decide : 0 + 0 ≤ _), (by decide : 0 + 0 ≤ _)⟩)
  dsimp only [Pt.U, Pt.locs, Pt.cells, Pt.slots] at X4 l4 y4 z4 st4 hQ4
  subst l4 y4 z4
  obtain ⟨rfl, N4q, hh4⟩ := hQ4
  have N4 := Fr.app N3 N4q
  refine own_Go.st (fun _ kt => st4 _ kt) ?_
  show own_Go p e below _ (T4.setTop (mkF m 23 #[.val (.ref ao), .val (.double x1), .second, .val (.double x2), .second, .val (.double x3), .second, .val (.double x4), .second] [(.int (1 : Int32))]))
  refine own_Go.st (fun _ kt => XS.ifNo X4.here hx rfl (hb hby own_d_prog_91_1_23) rfl ((if0 _ _).trans (feq (by decide)).1) kt) ?_
  show own_Go p e below _ (T4.setTop (mkF m 26 #[.val (.ref ao), .val (.double x1), .second, .val (.double x2), .second, .val (.double x3), .second, .val (.double x4), .second] []))
  refine own_Go.st (fun _ kt => XS.dload X4.here hx rfl (hb hby own_d_prog_91_1_26) rfl kt) ?_
  show own_Go p e below _ (T4.setTop (mkF m 28 #[.val (.ref ao), .val (.double x1), .second, .val (.double x2), .second, .val (.double x3), .second, .val (.double x4), .second] [(.double x4)]))
  obtain ⟨_, _, ⟨T5, L5, k5, n5⟩, -, X5, ⟨Lc5, hQ5, l5, y5, z5⟩, st5⟩ := Jvm.LawKit.callS X4 hx (y := (⟨"java/lang/Double", "isFinite", "(D)Z"⟩ : MethodName)) hown (mvT hZ (hw _ (List.mem_of_getElem? (i := 26) rfl))) (mvT hZ (hw _ (List.mem_of_getElem? (i := 27) rfl))) (mvT hZ (hw _ (List.mem_of_getElem? (i := 28) rfl))) (mvT hZ (hw _ (List.mem_of_getElem? (i := 29) rfl))) (by decide) (backOf (W := 0) (own_isfin l Z a0 hw [] x4 a4 h0 n0 Z0 l4) hZ (hw _ (List.mem_of_getElem? (i := 29) rfl)) (hw _ (List.mem_of_getElem? (i := 28) rfl)) (by decide) (by decide)) (g := (mkF m 28 #[.val (.ref ao), .val (.double x1), .second, .val (.double x2), .second, .val (.double x3), .second, .val (.double x4), .second] [(.double x4)])) rfl (by rw [hml]; rfl) (argsL := [(.double x4)]) (rest := []) (lenOf own_pd1 rfl) rfl (by show 2 * 0 + _ ≤ _; exact Nat.le_of_eq rfl) (hb hby own_d_prog_91_1_28) (fun _ _ => ⟨rfl, hh4, (by decide : 0 + 0 ≤ _), (by decide : 0 + 0 ≤ _)⟩)
  dsimp only [Pt.U, Pt.locs, Pt.cells, Pt.slots] at X5 l5 y5 z5 st5 hQ5
  subst l5 y5 z5
  obtain ⟨rfl, N5q, hh5⟩ := hQ5
  have N5 := Fr.app N4 N5q
  refine own_Go.st (fun _ kt => st5 _ kt) ?_
  show own_Go p e below _ (T5.setTop (mkF m 31 #[.val (.ref ao), .val (.double x1), .second, .val (.double x2), .second, .val (.double x3), .second, .val (.double x4), .second] [(.int (1 : Int32))]))
  refine own_Go.st (fun _ kt => XS.ifYes X5.here hx rfl (pc0 := 31) (pc' := 44) rfl (hb hby own_d_prog_91_1_31) rfl ((if0 _ _).trans (feq (by decide)).2) (by decide) (by decide) kt) ?_
  show own_Go p e below _ (T5.setTop (mkF m 44 #[.val (.ref ao), .val (.double x1), .second, .val (.double x2), .second, .val (.double x3), .second, .val (.double x4), .second] []))
  refine own_Go.st (fun _ kt => XS.dloadN X5.here hx rfl (hb hby own_d_prog_91_1_44) rfl kt) ?_
  show own_Go p e below _ (T5.setTop (mkF m 45 #[.val (.ref ao), .val (.double x1), .second, .val (.double x2), .second, .val (.double x3), .second, .val (.double x4), .second] [(.double x1)]))
  refine own_Go.st (fun _ kt => XS.dload X5.here hx rfl (hb hby own_d_prog_91_1_45) rfl kt) ?_
  show own_Go p e below _ (T5.setTop (mkF m 47 #[.val (.ref ao), .val (.double x1), .second, .val (.double x2), .second, .val (.double x3), .second, .val (.double x4), .second] [(.double x3), (.double x1)]))
  refine own_Go.st (fun _ kt => XS.dcmpS X5.here hx rfl (hb hby own_d_prog_91_1_47) rfl (own_like_cmp l1 l3 b1 b3 _) kt) ?_
  show own_Go p e below _ (T5.setTop (mkF m 48 #[.val (.ref ao), .val (.double x1), .second, .val (.double x2), .second, .val (.double x3), .second, .val (.double x4), .second] [(.int (lcmpW a1 a3))]))
  refine own_Go.st (fun _ kt => XS.ifYes X5.here hx rfl (pc0 := 48) (pc' := 67) rfl (hb hby own_d_prog_91_1_48) rfl ((if0 _ _).trans (flt (mt (lw_gt _ _).mp hx13)).2.2.2) (by decide) (by decide) kt) ?_
  show own_Go p e below _ (T5.setTop (mkF m 67 #[.val (.ref ao), .val (.double x1), .second, .val (.double x2), .second, .val (.double x3), .second, .val (.double x4), .second] []))
  refine own_Go.st (fun _ kt => XS.dloadN X5.here hx rfl (hb hby own_d_prog_91_1_67) rfl kt) ?_
  show own_Go p e below _ (T5.setTop (mkF m 68 #[.val (.ref ao), .val (.double x1), .second, .val (.double x2), .second, .val (.double x3), .second, .val (.double x4), .second] [(.double x2)]))
  refine own_Go.st (fun _ kt => XS.dload X5.here hx rfl (hb hby own_d_prog_91_1_68) rfl kt) ?_
  show own_Go p e below _ (T5.setTop (mkF m 70 #[.val (.ref ao), .val (.double x1), .second, .val (.double x2), .second, .val (.double x3), .second, .val (.double x4), .second] [(.double x4), (.double x2)]))
  refine own_Go.st (fun _ kt => XS.dcmpS X5.here hx rfl (hb hby own_d_prog_91_1_70) rfl (own_like_cmp l2 l4 b2 b4 _) kt) ?_
  show own_Go p e below _ (T5.setTop (mkF m 71 #[.val (.ref ao), .val (.double x1), .second, .val (.double x2), .second, .val (.double x3), .second, .val (.double x4), .second] [(.int (lcmpW a2 a4))]))
  refine own_Go.st (fun _ kt => XS.ifYes X5.here hx rfl (pc0 := 71) (pc' := 90) rfl (hb hby own_d_prog_91_1_71) rfl ((if0 _ _).trans (flt (mt (lw_gt _ _).mp hx24)).2.2.2) (by decide) (by decide) kt) ?_
  show own_Go p e below _ (T5.setTop (mkF m 90 #[.val (.ref ao), .val (.double x1), .second, .val (.double x2), .second, .val (.double x3), .second, .val (.double x4), .second] []))
  have J148 : ∀ (T6 : State) (lc6 : List Loc) (X6 : Stand p l e ({ frames := 3, cells := 0, slots := 0, locals := 47 } : Room) s m #[(.ref ao), (.double x1), (.double x2), (.double x3), (.double x4)] below meth c T6 lc6 0 0) (e6 : T6.heap = h0) (N6 : Fr n0 lc6) (y1 y2 y3 y4 : UInt64) (k1 : own_like y1 a1) (k2 : own_like y2 a2) (k3 : own_like y3 a3) (k4 : own_like y4 a4), own_Go p e below (fun o U' => ∃ v L, o = .returned v ∧ own_Q_own_rinit Z ao x1 x2 x3 x4 a1 a2 a3 a4 h0 n0 v U'.heap L ∧ FrameEnd s o U' L ({ frames := 3, cells := 0, slots := 0, locals := 47 } : Room).cells ({ frames := 3, cells := 0, slots := 0, locals := 47 } : Room).slots) (T6.setTop (mkF m 148 #[.val (.ref ao), .val (.double y1), .second, .val (.double y2), .second, .val (.double y3), .second, .val (.double y4), .second] [])) := by
    intro T6 lc6 X6 e6 N6 y1 y2 y3 y4 k1 k2 k3 k4
    show own_Go p e below _ (T6.setTop (mkF m 148 #[.val (.ref ao), .val (.double y1), .second, .val (.double y2), .second, .val (.double y3), .second, .val (.double y4), .second] []))
    refine own_Go.st (fun _ kt => XS.aloadN X6.here hx rfl (hb hby own_d_prog_91_1_148) rfl rfl kt) ?_
    show own_Go p e below _ (T6.setTop (mkF m 149 #[.val (.ref ao), .val (.double y1), .second, .val (.double y2), .second, .val (.double y3), .second, .val (.double y4), .second] [(.ref ao)]))
    refine own_Go.st (fun _ kt => XS.dloadN X6.here hx rfl (hb hby own_d_prog_91_1_149) rfl kt) ?_
    show own_Go p e below _ (T6.setTop (mkF m 150 #[.val (.ref ao), .val (.double y1), .second, .val (.double y2), .second, .val (.double y3), .second, .val (.double y4), .second] [(.double y1), (.ref ao)]))
    obtain ⟨T7, h7, X7, e7, W7, st7⟩ := putF X6 hx hZ hown (host := "") (Or.inl (hw _ (List.mem_of_getElem? (i := 34) rfl))) Via.refl e6 F_minX EO (Or.inr ⟨(hw _ (List.mem_of_getElem? (i := 35) rfl)), rfl, hnm⟩) (hw _ (List.mem_of_getElem? (i := 8) rfl)) (ty := .double) (by decide) rfl rfl (g := (mkF m 150 #[.val (.ref ao), .val (.double y1), .second, .val (.double y2), .second, .val (.double y3), .second, .val (.double y4), .second] [(.double y1), (.ref ao)])) rfl rfl (hb hby own_d_prog_91_1_150)
    refine own_Go.st st7 ?_
    have N7 := Fr.snoc X7 N6 ga
    have f7_minX := Fld.same W7 F_minX
    have zz8 : n0 ≤ Array.size h7 := Nat.le_trans Z0 (Nat.le_of_eq (Wr.size W7).symm)
    have kk8 : Keep h0 h7 [ao] := kk0.wr W7 (Or.inl (List.mem_of_getElem? (i := 0) rfl))
    show own_Go p e below _ (T7.setTop (mkF m 153 #[.val (.ref ao), .val (.double y1), .second, .val (.double y2), .second, .val (.double y3), .second, .val (.double y4), .second] []))
    refine own_Go.st (fun _ kt => XS.aloadN X7.here hx rfl (hb hby own_d_prog_91_1_153) rfl rfl kt) ?_
    show own_Go p e below _ (T7.setTop (mkF m 154 #[.val (.ref ao), .val (.double y1), .second, .val (.double y2), .second, .val (.double y3), .second, .val (.double y4), .second] [(.ref ao)]))
    refine own_Go.st (fun _ kt => XS.dloadN X7.here hx rfl (hb hby own_d_prog_91_1_154) rfl kt) ?_
    show own_Go p e below _ (T7.setTop (mkF m 155 #[.val (.ref ao), .val (.double y1), .second, .val (.double y2), .second, .val (.double y3), .second, .val (.double y4), .second] [(.double y2), (.ref ao)]))
    have f9 := (F_minY.other W7 (Or.inr (slot_ne (Or.inr (hw _ (List.mem_of_getElem? (i := 37) rfl))) (Or.inr (hw _ (List.mem_of_getElem? (i := 35) rfl))) (by decide) (t := .double) (t' := .double) (by decide) (by decide))))
    have f10 := (EO.wr W7)
    obtain ⟨T11, h11, X11, e11, W11, st11⟩ := putF X7 hx hZ hown (host := "") (Or.inl (hw _ (List.mem_of_getElem? (i := 36) rfl))) Via.refl e7 f9 f10 (Or.inr ⟨(hw _ (List.mem_of_getElem? (i := 37) rfl)), rfl, hnm⟩) (hw _ (List.mem_of_getElem? (i := 8) rfl)) (ty := .double) (by decide) rfl rfl (g := (mkF m 155 #[.val (.ref ao), .val (.double y1), .second, .val (.double y2), .second, .val (.double y3), .second, .val (.double y4), .second] [(.double y2), (.ref ao)])) rfl rfl (hb hby own_d_prog_91_1_155)
    refine own_Go.st st11 ?_
    have N11 := Fr.snoc X11 N7 ga
    have f11_minY := Fld.same W11 f9
    have zz12 : n0 ≤ Array.size h11 := Nat.le_trans zz8 (Nat.le_of_eq (Wr.size W11).symm)
    have kk12 : Keep h0 h11 [ao] := kk8.wr W11 (Or.inl (List.mem_of_getElem? (i := 0) rfl))
    show own_Go p e below _ (T11.setTop (mkF m 158 #[.val (.ref ao), .val (.double y1), .second, .val (.double y2), .second, .val (.double y3), .second, .val (.double y4), .second] []))
    refine own_Go.st (fun _ kt => XS.aloadN X11.here hx rfl (hb hby own_d_prog_91_1_158) rfl rfl kt) ?_
    show own_Go p e below _ (T11.setTop (mkF m 159 #[.val (.ref ao), .val (.double y1), .second, .val (.double y2), .second, .val (.double y3), .second, .val (.double y4), .second] [(.ref ao)]))
    refine own_Go.st (fun _ kt => XS.dload X11.here hx rfl (hb hby own_d_prog_91_1_159) rfl kt) ?_
    show own_Go p e below _ (T11.setTop (mkF m 161 #[.val (.ref ao), .val (.double y1), .second, .val (.double y2), .second, .val (.double y3), .second, .val (.double y4), .second] [(.double y3), (.ref ao)]))
    have f13 := ((F_maxX.other W7 (Or.inr (slot_ne (Or.inr (hw _ (List.mem_of_getElem? (i := 39) rfl))) (Or.inr (hw _ (List.mem_of_getElem? (i := 35) rfl))) (by decide) (t := .double) (t' := .double) (by decide) (by decide)))).other W11 (Or.inr (slot_ne (Or.inr (hw _ (List.mem_of_getElem? (i := 39) rfl))) (Or.inr (hw _ (List.mem_of_getElem? (i := 37) rfl))) (by decide) (t := .double) (t' := .double) (by decide) (by decide))))
    have f14 := (f10.wr W11)
    obtain ⟨T15, h15, X15, e15, W15, st15⟩ := putF X11 hx hZ hown (host := "") (Or.inl (hw _ (List.mem_of_getElem? (i := 38) rfl))) Via.refl e11 f13 f14 (Or.inr ⟨(hw _ (List.mem_of_getElem? (i := 39) rfl)), rfl, hnm⟩) (hw _ (List.mem_of_getElem? (i := 8) rfl)) (ty := .double) (by decide) rfl rfl (g := (mkF m 161 #[.val (.ref ao), .val (.double y1), .second, .val (.double y2), .second, .val (.double y3), .second, .val (.double y4), .second] [(.double y3), (.ref ao)])) rfl rfl (hb hby own_d_prog_91_1_161)
    refine own_Go.st st15 ?_
    have N15 := Fr.snoc X15 N11 ga
    have f15_maxX := Fld.same W15 f13
    have zz16 : n0 ≤ Array.size h15 := Nat.le_trans zz12 (Nat.le_of_eq (Wr.size W15).symm)
    have kk16 : Keep h0 h15 [ao] := kk12.wr W15 (Or.inl (List.mem_of_getElem? (i := 0) rfl))
    show own_Go p e below _ (T15.setTop (mkF m 164 #[.val (.ref ao), .val (.double y1), .second, .val (.double y2), .second, .val (.double y3), .second, .val (.double y4), .second] []))
    refine own_Go.st (fun _ kt => XS.aloadN X15.here hx rfl (hb hby own_d_prog_91_1_164) rfl rfl kt) ?_
    show own_Go p e below _ (T15.setTop (mkF m 165 #[.val (.ref ao), .val (.double y1), .second, .val (.double y2), .second, .val (.double y3), .second, .val (.double y4), .second] [(.ref ao)]))
    refine own_Go.st (fun _ kt => XS.dload X15.here hx rfl (hb hby own_d_prog_91_1_165) rfl kt) ?_
    show own_Go p e below _ (T15.setTop (mkF m 167 #[.val (.ref ao), .val (.double y1), .second, .val (.double y2), .second, .val (.double y3), .second, .val (.double y4), .second] [(.double y4), (.ref ao)]))
    have f17 := (((F_maxY.other W7 (Or.inr (slot_ne (Or.inr (hw _ (List.mem_of_getElem? (i := 41) rfl))) (Or.inr (hw _ (List.mem_of_getElem? (i := 35) rfl))) (by decide) (t := .double) (t' := .double) (by decide) (by decide)))).other W11 (Or.inr (slot_ne (Or.inr (hw _ (List.mem_of_getElem? (i := 41) rfl))) (Or.inr (hw _ (List.mem_of_getElem? (i := 37) rfl))) (by decide) (t := .double) (t' := .double) (by decide) (by decide)))).other W15 (Or.inr (slot_ne (Or.inr (hw _ (List.mem_of_getElem? (i := 41) rfl))) (Or.inr (hw _ (List.mem_of_getElem? (i := 39) rfl))) (by decide) (t := .double) (t' := .double) (by decide) (by decide))))
    have f18 := (f14.wr W15)
    obtain ⟨T19, h19, X19, e19, W19, st19⟩ := putF X15 hx hZ hown (host := "") (Or.inl (hw _ (List.mem_of_getElem? (i := 40) rfl))) Via.refl e15 f17 f18 (Or.inr ⟨(hw _ (List.mem_of_getElem? (i := 41) rfl)), rfl, hnm⟩) (hw _ (List.mem_of_getElem? (i := 8) rfl)) (ty := .double) (by decide) rfl rfl (g := (mkF m 167 #[.val (.ref ao), .val (.double y1), .second, .val (.double y2), .second, .val (.double y3), .second, .val (.double y4), .second] [(.double y4), (.ref ao)])) rfl rfl (hb hby own_d_prog_91_1_167)
    refine own_Go.st st19 ?_
    have N19 := Fr.snoc X19 N15 ga
    have f19_maxY := Fld.same W19 f17
    have zz20 : n0 ≤ Array.size h19 := Nat.le_trans zz16 (Nat.le_of_eq (Wr.size W19).symm)
    have kk20 : Keep h0 h19 [ao] := kk16.wr W19 (Or.inl (List.mem_of_getElem? (i := 0) rfl))
    show own_Go p e below _ (T19.setTop (mkF m 170 #[.val (.ref ao), .val (.double y1), .second, .val (.double y2), .second, .val (.double y3), .second, .val (.double y4), .second] []))
    have f21 := (((f7_minX.other W11 (Or.inr (slot_ne (Or.inr (hw _ (List.mem_of_getElem? (i := 35) rfl))) (Or.inr (hw _ (List.mem_of_getElem? (i := 37) rfl))) (by decide) (t := .double) (t' := .double) (by decide) (by decide)))).other W15 (Or.inr (slot_ne (Or.inr (hw _ (List.mem_of_getElem? (i := 35) rfl))) (Or.inr (hw _ (List.mem_of_getElem? (i := 39) rfl))) (by decide) (t := .double) (t' := .double) (by decide) (by decide)))).other W19 (Or.inr (slot_ne (Or.inr (hw _ (List.mem_of_getElem? (i := 35) rfl))) (Or.inr (hw _ (List.mem_of_getElem? (i := 41) rfl))) (by decide) (t := .double) (t' := .double) (by decide) (by decide))))
    have fin0 := f21
    have f22 := ((f11_minY.other W15 (Or.inr (slot_ne (Or.inr (hw _ (List.mem_of_getElem? (i := 37) rfl))) (Or.inr (hw _ (List.mem_of_getElem? (i := 39) rfl))) (by decide) (t := .double) (t' := .double) (by decide) (by decide)))).other W19 (Or.inr (slot_ne (Or.inr (hw _ (List.mem_of_getElem? (i := 37) rfl))) (Or.inr (hw _ (List.mem_of_getElem? (i := 41) rfl))) (by decide) (t := .double) (t' := .double) (by decide) (by decide))))
    have fin1 := f22
    have f23 := (f15_maxX.other W19 (Or.inr (slot_ne (Or.inr (hw _ (List.mem_of_getElem? (i := 39) rfl))) (Or.inr (hw _ (List.mem_of_getElem? (i := 41) rfl))) (by decide) (t := .double) (t' := .double) (by decide) (by decide))))
    have fin2 := f23
    have fin3 := f19_maxY
    have f24 := (f18.wr W19)
    have fin9 := f24
    rw [← e19] at fin0 fin1 fin2 fin3 fin9
    exact own_retV X19 hx Bd.notSynchronized Bd.returns (hb hby own_d_prog_91_1_170) (by decide) (by decide) ⟨rfl, N19, fin9, y1, y2, y3, y4, k1, k2, k3, k4, fin0, fin1, fin2, fin3, e19 ▸ kk20⟩
  have J119 : ∀ (T25 : State) (lc25 : List Loc) (X25 : Stand p l e ({ frames := 3, cells := 0, slots := 0, locals := 47 } : Room) s m #[(.ref ao), (.double x1), (.double x2), (.double x3), (.double x4)] below meth c T25 lc25 0 0) (e25 : T25.heap = h0) (N25 : Fr n0 lc25) (y1 y3 : UInt64) (k1 : own_like y1 a1) (k3 : own_like y3 a3), own_Go p e below (fun o U' => ∃ v L, o = .returned v ∧ own_Q_own_rinit Z ao x1 x2 x3 x4 a1 a2 a3 a4 h0 n0 v U'.heap L ∧ FrameEnd s o U' L ({ frames := 3, cells := 0, slots := 0, locals := 47 } : Room).cells ({ frames := 3, cells := 0, slots := 0, locals := 47 } : Room).slots) (T25.setTop (mkF m 119 #[.val (.ref ao), .val (.double y1), .second, .val (.double x2), .second, .val (.double y3), .second, .val (.double x4), .second] [])) := by
    intro T25 lc25 X25 e25 N25 y1 y3 k1 k3
    show own_Go p e below _ (T25.setTop (mkF m 119 #[.val (.ref ao), .val (.double y1), .second, .val (.double x2), .second, .val (.double y3), .second, .val (.double x4), .second] []))
    refine own_Go.st (fun _ kt => XS.dloadN X25.here hx rfl (hb hby own_d_prog_91_1_119) rfl kt) ?_
    show own_Go p e below _ (T25.setTop (mkF m 120 #[.val (.ref ao), .val (.double y1), .second, .val (.double x2), .second, .val (.double y3), .second, .val (.double x4), .second] [(.double x2)]))
    refine own_Go.st (fun _ kt => XS.dconst0 X25.here hx rfl (hb hby own_d_prog_91_1_120) rfl kt) ?_
    show own_Go p e below _ (T25.setTop (mkF m 121 #[.val (.ref ao), .val (.double y1), .second, .val (.double x2), .second, .val (.double y3), .second, .val (.double x4), .second] [(.double FP.dconst0), (.double x2)]))
    refine own_Go.st (fun _ kt => XS.dcmpS X25.here hx rfl (hb hby own_d_prog_91_1_121) rfl (own_like_cmp l2 own_like_zero b2 bz _) kt) ?_
    show own_Go p e below _ (T25.setTop (mkF m 122 #[.val (.ref ao), .val (.double y1), .second, .val (.double x2), .second, .val (.double y3), .second, .val (.double x4), .second] [(.int (lcmpW a2 0))]))
    by_cases hz1 : a2 = 0
    · refine own_Go.st (fun _ kt => XS.ifNo X25.here hx rfl (hb hby own_d_prog_91_1_122) rfl ((if0 _ _).trans (teq ((lw_eq _ _).mpr hz1)).2) kt) ?_
      show own_Go p e below _ (T25.setTop (mkF m 125 #[.val (.ref ao), .val (.double y1), .second, .val (.double x2), .second, .val (.double y3), .second, .val (.double x4), .second] []))
      refine own_Go.st (fun _ kt => XS.dload X25.here hx rfl (hb hby own_d_prog_91_1_125) rfl kt) ?_
      show own_Go p e below _ (T25.setTop (mkF m 127 #[.val (.ref ao), .val (.double y1), .second, .val (.double x2), .second, .val (.double y3), .second, .val (.double x4), .second] [(.double x4)]))
      refine own_Go.st (fun _ kt => XS.dconst0 X25.here hx rfl (hb hby own_d_prog_91_1_127) rfl kt) ?_
      show own_Go p e below _ (T25.setTop (mkF m 128 #[.val (.ref ao), .val (.double y1), .second, .val (.double x2), .second, .val (.double y3), .second, .val (.double x4), .second] [(.double FP.dconst0), (.double x4)]))
      refine own_Go.st (fun _ kt => XS.dcmpS X25.here hx rfl (hb hby own_d_prog_91_1_128) rfl (own_like_cmp l4 own_like_zero b4 bz _) kt) ?_
      show own_Go p e below _ (T25.setTop (mkF m 129 #[.val (.ref ao), .val (.double y1), .second, .val (.double x2), .second, .val (.double y3), .second, .val (.double x4), .second] [(.int (lcmpW a4 0))]))
      by_cases hz2 : a4 = 0
      · refine own_Go.st (fun _ kt => XS.ifNo X25.here hx rfl (hb hby own_d_prog_91_1_129) rfl ((if0 _ _).trans (teq ((lw_eq _ _).mpr hz2)).2) kt) ?_
        show own_Go p e below _ (T25.setTop (mkF m 132 #[.val (.ref ao), .val (.double y1), .second, .val (.double x2), .second, .val (.double y3), .second, .val (.double x4), .second] []))
        refine own_Go.st (fun _ kt => XS.dloadN X25.here hx rfl (hb hby own_d_prog_91_1_132) rfl kt) ?_
        show own_Go p e below _ (T25.setTop (mkF m 133 #[.val (.ref ao), .val (.double y1), .second, .val (.double x2), .second, .val (.double y3), .second, .val (.double x4), .second] [(.double x2)]))
        refine own_Go.st (fun _ kt => XS.dload X25.here hx rfl (hb hby own_d_prog_91_1_133) rfl kt) ?_
        show own_Go p e below _ (T25.setTop (mkF m 135 #[.val (.ref ao), .val (.double y1), .second, .val (.double x2), .second, .val (.double y3), .second, .val (.double x4), .second] [(.double x4), (.double x2)]))
        have la0 : own_like x2 0 := hz1 ▸ l2
        have lb0 : own_like x4 0 := hz2 ▸ l4
        obtain ⟨_, _, ⟨T26, L26, k26, n26⟩, -, X26, ⟨Lc26, hQ26, l26, y26, z26⟩, st26⟩ := Jvm.LawKit.callS X25 hx (y := (⟨"java/lang/Double", "compare", "(DD)I"⟩ : MethodName)) hown (mvT hZ (hw _ (List.mem_of_getElem? (i := 57) rfl))) (mvT hZ (hw _ (List.mem_of_getElem? (i := 58) rfl))) (mvT hZ (hw _ (List.mem_of_getElem? (i := 28) rfl))) (mvT hZ (hw _ (List.mem_of_getElem? (i := 59) rfl))) (by decide) (backOf (W := 0) (own_cmp l Z a0 hw [] x2 x4 h0 n0 Z0 la0 lb0) hZ (hw _ (List.mem_of_getElem? (i := 59) rfl)) (hw _ (List.mem_of_getElem? (i := 28) rfl)) (by decide) (by decide)) (g := (mkF m 135 #[.val (.ref ao), .val (.double y1), .second, .val (.double x2), .second, .val (.double y3), .second, .val (.double x4), .second] [(.double x4), (.double x2)])) rfl (by rw [hml]; rfl) (argsL := [(.double x2), (.double x4)]) (rest := []) (lenOf own_pd4 rfl) rfl (by show 2 * 0 + _ ≤ _; exact Nat.le_of_eq rfl) (hb hby own_d_prog_91_1_135) (fun _ _ => ⟨rfl, e25, (by decide : 0 + 0 ≤ _), (by decide : 0 + 0 ≤ _)⟩)
        dsimp only [Pt.U, Pt.locs, Pt.cells, Pt.slots] at X26 l26 y26 z26 st26 hQ26
        subst l26 y26 z26
        obtain ⟨zc, rfl, N26q, hh26⟩ := hQ26
        have N26 := Fr.app N25 N26q
        refine own_Go.st (fun _ kt => st26 _ kt) ?_
        show own_Go p e below _ (T26.setTop (mkF m 138 #[.val (.ref ao), .val (.double y1), .second, .val (.double x2), .second, .val (.double y3), .second, .val (.double x4), .second] [(.int zc)]))
        by_cases hz3 : (0 : Int32) < zc
        · refine own_Go.st (fun _ kt => XS.ifNo X26.here hx rfl (hb hby own_d_prog_91_1_138) rfl ((if0 _ _).trans (tlt hz3).2.2.2) kt) ?_
          show own_Go p e below _ (T26.setTop (mkF m 141 #[.val (.ref ao), .val (.double y1), .second, .val (.double x2), .second, .val (.double y3), .second, .val (.double x4), .second] []))
          refine own_Go.st (fun _ kt => X26.ldc2DoubleC hx hown (mvT hZ (hw _ (List.mem_of_getElem? (i := 69) rfl))) (g := (mkF m 141 #[.val (.ref ao), .val (.double y1), .second, .val (.double x2), .second, .val (.double y3), .second, .val (.double x4), .second] [])) rfl (hb hby own_d_prog_91_1_141) _ kt) ?_
          show own_Go p e below _ (T26.setTop (mkF m 144 #[.val (.ref ao), .val (.double y1), .second, .val (.double x2), .second, .val (.double y3), .second, .val (.double x4), .second] [(.double (9223372036854775808 : UInt64))]))
          refine own_Go.st (fun _ kt => XS.dstoreN X26.here hx rfl (hb hby own_d_prog_91_1_144) rfl (l' := #[.val (.ref ao), .val (.double y1), .second, .val (.double (9223372036854775808 : UInt64)), .second, .val (.double y3), .second, .val (.double x4), .second]) rfl kt) ?_
          show own_Go p e below _ (T26.setTop (mkF m 145 #[.val (.ref ao), .val (.double y1), .second, .val (.double (9223372036854775808 : UInt64)), .second, .val (.double y3), .second, .val (.double x4), .second] []))
          refine own_Go.st (fun _ kt => XS.dconst0 X26.here hx rfl (hb hby own_d_prog_91_1_145) rfl kt) ?_
          show own_Go p e below _ (T26.setTop (mkF m 146 #[.val (.ref ao), .val (.double y1), .second, .val (.double (9223372036854775808 : UInt64)), .second, .val (.double y3), .second, .val (.double x4), .second] [(.double FP.dconst0)]))
          refine own_Go.st (fun _ kt => XS.dstore X26.here hx rfl (hb hby own_d_prog_91_1_146) rfl (l' := #[.val (.ref ao), .val (.double y1), .second, .val (.double (9223372036854775808 : UInt64)), .second, .val (.double y3), .second, .val (.double FP.dconst0), .second]) rfl kt) ?_
          show own_Go p e below _ (T26.setTop (mkF m 148 #[.val (.ref ao), .val (.double y1), .second, .val (.double (9223372036854775808 : UInt64)), .second, .val (.double y3), .second, .val (.double FP.dconst0), .second] []))
          exact J148 _ _ X26 hh26 N26 y1 (9223372036854775808 : UInt64) y3 FP.dconst0 k1 (hz1.symm ▸ own_like_negz) k3 (hz2.symm ▸ own_like_zero)
        · refine own_Go.st (fun _ kt => XS.ifYes X26.here hx rfl (pc0 := 138) (pc' := 148) rfl (hb hby own_d_prog_91_1_138) rfl ((if0 _ _).trans (flt hz3).2.2.2) (by decide) (by decide) kt) ?_
          show own_Go p e below _ (T26.setTop (mkF m 148 #[.val (.ref ao), .val (.double y1), .second, .val (.double x2), .second, .val (.double y3), .second, .val (.double x4), .second] []))
          exact J148 _ _ X26 hh26 N26 y1 x2 y3 x4 k1 l2 k3 l4
      · refine own_Go.st (fun _ kt => XS.ifYes X25.here hx rfl (pc0 := 129) (pc' := 148) rfl (hb hby own_d_prog_91_1_129) rfl ((if0 _ _).trans (feq (mt (lw_eq _ _).mp hz2)).2) (by decide) (by decide) kt) ?_
        show own_Go p e below _ (T25.setTop (mkF m 148 #[.val (.ref ao), .val (.double y1), .second, .val (.double x2), .second, .val (.double y3), .second, .val (.double x4), .second] []))
        exact J148 _ _ X25 e25 N25 y1 x2 y3 x4 k1 l2 k3 l4
    · refine own_Go.st (fun _ kt => XS.ifYes X25.here hx rfl (pc0 := 122) (pc' := 148) rfl (hb hby own_d_prog_91_1_122) rfl ((if0 _ _).trans (feq (mt (lw_eq _ _).mp hz1)).2) (by decide) (by decide) kt) ?_
      show own_Go p e below _ (T25.setTop (mkF m 148 #[.val (.ref ao), .val (.double y1), .second, .val (.double x2), .second, .val (.double y3), .second, .val (.double x4), .second] []))
      exact J148 _ _ X25 e25 N25 y1 x2 y3 x4 k1 l2 k3 l4
  refine own_Go.st (fun _ kt => XS.dloadN X5.here hx rfl (hb hby own_d_prog_91_1_90) rfl kt) ?_
  show own_Go p e below _ (T5.setTop (mkF m 91 #[.val (.ref ao), .val (.double x1), .second, .val (.double x2), .second, .val (.double x3), .second, .val (.double x4), .second] [(.double x1)]))
  refine own_Go.st (fun _ kt => XS.dconst0 X5.here hx rfl (hb hby own_d_prog_91_1_91) rfl kt) ?_
  show own_Go p e below _ (T5.setTop (mkF m 92 #[.val (.ref ao), .val (.double x1), .second, .val (.double x2), .second, .val (.double x3), .second, .val (.double x4), .second] [(.double FP.dconst0), (.double x1)]))
  refine own_Go.st (fun _ kt => XS.dcmpS X5.here hx rfl (hb hby own_d_prog_91_1_92) rfl (own_like_cmp l1 own_like_zero b1 bz _) kt) ?_
  show own_Go p e below _ (T5.setTop (mkF m 93 #[.val (.ref ao), .val (.double x1), .second, .val (.double x2), .second, .val (.double x3), .second, .val (.double x4), .second] [(.int (lcmpW a1 0))]))
  by_cases hz1 : a1 = 0
  · refine own_Go.st (fun _ kt => XS.ifNo X5.here hx rfl (hb hby own_d_prog_91_1_93) rfl ((if0 _ _).trans (teq ((lw_eq _ _).mpr hz1)).2) kt) ?_
    show own_Go p e below _ (T5.setTop (mkF m 96 #[.val (.ref ao), .val (.double x1), .second, .val (.double x2), .second, .val (.double x3), .second, .val (.double x4), .second] []))
    refine own_Go.st (fun _ kt => XS.dload X5.here hx rfl (hb hby own_d_prog_91_1_96) rfl kt) ?_
    show own_Go p e below _ (T5.setTop (mkF m 98 #[.val (.ref ao), .val (.double x1), .second, .val (.double x2), .second, .val (.double x3), .second, .val (.double x4), .second] [(.double x3)]))
    refine own_Go.st (fun _ kt => XS.dconst0 X5.here hx rfl (hb hby own_d_prog_91_1_98) rfl kt) ?_
    show own_Go p e below _ (T5.setTop (mkF m 99 #[.val (.ref ao), .val (.double x1), .second, .val (.double x2), .second, .val (.double x3), .second, .val (.double x4), .second] [(.double FP.dconst0), (.double x3)]))
    refine own_Go.st (fun _ kt => XS.dcmpS X5.here hx rfl (hb hby own_d_prog_91_1_99) rfl (own_like_cmp l3 own_like_zero b3 bz _) kt) ?_
    show own_Go p e below _ (T5.setTop (mkF m 100 #[.val (.ref ao), .val (.double x1), .second, .val (.double x2), .second, .val (.double x3), .second, .val (.double x4), .second] [(.int (lcmpW a3 0))]))
    by_cases hz2 : a3 = 0
    · refine own_Go.st (fun _ kt => XS.ifNo X5.here hx rfl (hb hby own_d_prog_91_1_100) rfl ((if0 _ _).trans (teq ((lw_eq _ _).mpr hz2)).2) kt) ?_
      show own_Go p e below _ (T5.setTop (mkF m 103 #[.val (.ref ao), .val (.double x1), .second, .val (.double x2), .second, .val (.double x3), .second, .val (.double x4), .second] []))
      refine own_Go.st (fun _ kt => XS.dloadN X5.here hx rfl (hb hby own_d_prog_91_1_103) rfl kt) ?_
      show own_Go p e below _ (T5.setTop (mkF m 104 #[.val (.ref ao), .val (.double x1), .second, .val (.double x2), .second, .val (.double x3), .second, .val (.double x4), .second] [(.double x1)]))
      refine own_Go.st (fun _ kt => XS.dload X5.here hx rfl (hb hby own_d_prog_91_1_104) rfl kt) ?_
      show own_Go p e below _ (T5.setTop (mkF m 106 #[.val (.ref ao), .val (.double x1), .second, .val (.double x2), .second, .val (.double x3), .second, .val (.double x4), .second] [(.double x3), (.double x1)]))
      have la0 : own_like x1 0 := hz1 ▸ l1
      have lb0 : own_like x3 0 := hz2 ▸ l3
      obtain ⟨_, _, ⟨T27, L27, k27, n27⟩, -, X27, ⟨Lc27, hQ27, l27, y27, z27⟩, st27⟩ := Jvm.LawKit.callS X5 hx (y := (⟨"java/lang/Double", "compare", "(DD)I"⟩ : MethodName)) hown (mvT hZ (hw _ (List.mem_of_getElem? (i := 57) rfl))) (mvT hZ (hw _ (List.mem_of_getElem? (i := 58) rfl))) (mvT hZ (hw _ (List.mem_of_getElem? (i := 28) rfl))) (mvT hZ (hw _ (List.mem_of_getElem? (i := 59) rfl))) (by decide) (backOf (W := 0) (own_cmp l Z a0 hw [] x1 x3 h0 n0 Z0 la0 lb0) hZ (hw _ (List.mem_of_getElem? (i := 59) rfl)) (hw _ (List.mem_of_getElem? (i := 28) rfl)) (by decide) (by decide)) (g := (mkF m 106 #[.val (.ref ao), .val (.double x1), .second, .val (.double x2), .second, .val (.double x3), .second, .val (.double x4), .second] [(.double x3), (.double x1)])) rfl (by rw [hml]; rfl) (argsL := [(.double x1), (.double x3)]) (rest := []) (lenOf own_pd4 rfl) rfl (by show 2 * 0 + _ ≤ _; exact Nat.le_of_eq rfl) (hb hby own_d_prog_91_1_106) (fun _ _ => ⟨rfl, hh5, (by decide : 0 + 0 ≤ _), (by decide : 0 + 0 ≤ _)⟩)
      dsimp only [Pt.U, Pt.locs, Pt.cells, Pt.slots] at X27 l27 y27 z27 st27 hQ27
      subst l27 y27 z27
      obtain ⟨zc, rfl, N27q, hh27⟩ := hQ27
      have N27 := Fr.app N5 N27q
      refine own_Go.st (fun _ kt => st27 _ kt) ?_
      show own_Go p e below _ (T27.setTop (mkF m 109 #[.val (.ref ao), .val (.double x1), .second, .val (.double x2), .second, .val (.double x3), .second, .val (.double x4), .second] [(.int zc)]))
      by_cases hz3 : (0 : Int32) < zc
      · refine own_Go.st (fun _ kt => XS.ifNo X27.here hx rfl (hb hby own_d_prog_91_1_109) rfl ((if0 _ _).trans (tlt hz3).2.2.2) kt) ?_
        show own_Go p e below _ (T27.setTop (mkF m 112 #[.val (.ref ao), .val (.double x1), .second, .val (.double x2), .second, .val (.double x3), .second, .val (.double x4), .second] []))
        refine own_Go.st (fun _ kt => X27.ldc2DoubleC hx hown (mvT hZ (hw _ (List.mem_of_getElem? (i := 69) rfl))) (g := (mkF m 112 #[.val (.ref ao), .val (.double x1), .second, .val (.double x2), .second, .val (.double x3), .second, .val (.double x4), .second] [])) rfl (hb hby own_d_prog_91_1_112) _ kt) ?_
        show own_Go p e below _ (T27.setTop (mkF m 115 #[.val (.ref ao), .val (.double x1), .second, .val (.double x2), .second, .val (.double x3), .second, .val (.double x4), .second] [(.double (9223372036854775808 : UInt64))]))
        refine own_Go.st (fun _ kt => XS.dstoreN X27.here hx rfl (hb hby own_d_prog_91_1_115) rfl (l' := #[.val (.ref ao), .val (.double (9223372036854775808 : UInt64)), .second, .val (.double x2), .second, .val (.double x3), .second, .val (.double x4), .second]) rfl kt) ?_
        show own_Go p e below _ (T27.setTop (mkF m 116 #[.val (.ref ao), .val (.double (9223372036854775808 : UInt64)), .second, .val (.double x2), .second, .val (.double x3), .second, .val (.double x4), .second] []))
        refine own_Go.st (fun _ kt => XS.dconst0 X27.here hx rfl (hb hby own_d_prog_91_1_116) rfl kt) ?_
        show own_Go p e below _ (T27.setTop (mkF m 117 #[.val (.ref ao), .val (.double (9223372036854775808 : UInt64)), .second, .val (.double x2), .second, .val (.double x3), .second, .val (.double x4), .second] [(.double FP.dconst0)]))
        refine own_Go.st (fun _ kt => XS.dstore X27.here hx rfl (hb hby own_d_prog_91_1_117) rfl (l' := #[.val (.ref ao), .val (.double (9223372036854775808 : UInt64)), .second, .val (.double x2), .second, .val (.double FP.dconst0), .second, .val (.double x4), .second]) rfl kt) ?_
        show own_Go p e below _ (T27.setTop (mkF m 119 #[.val (.ref ao), .val (.double (9223372036854775808 : UInt64)), .second, .val (.double x2), .second, .val (.double FP.dconst0), .second, .val (.double x4), .second] []))
        exact J119 _ _ X27 hh27 N27 (9223372036854775808 : UInt64) FP.dconst0 (hz1.symm ▸ own_like_negz) (hz2.symm ▸ own_like_zero)
      · refine own_Go.st (fun _ kt => XS.ifYes X27.here hx rfl (pc0 := 109) (pc' := 119) rfl (hb hby own_d_prog_91_1_109) rfl ((if0 _ _).trans (flt hz3).2.2.2) (by decide) (by decide) kt) ?_
        show own_Go p e below _ (T27.setTop (mkF m 119 #[.val (.ref ao), .val (.double x1), .second, .val (.double x2), .second, .val (.double x3), .second, .val (.double x4), .second] []))
        exact J119 _ _ X27 hh27 N27 x1 x3 l1 l3
    · refine own_Go.st (fun _ kt => XS.ifYes X5.here hx rfl (pc0 := 100) (pc' := 119) rfl (hb hby own_d_prog_91_1_100) rfl ((if0 _ _).trans (feq (mt (lw_eq _ _).mp hz2)).2) (by decide) (by decide) kt) ?_
      show own_Go p e below _ (T5.setTop (mkF m 119 #[.val (.ref ao), .val (.double x1), .second, .val (.double x2), .second, .val (.double x3), .second, .val (.double x4), .second] []))
      exact J119 _ _ X5 hh5 N5 x1 x3 l1 l3
  · refine own_Go.st (fun _ kt => XS.ifYes X5.here hx rfl (pc0 := 93) (pc' := 119) rfl (hb hby own_d_prog_91_1_93) rfl ((if0 _ _).trans (feq (mt (lw_eq _ _).mp hz1)).2) (by decide) (by decide) kt) ?_
    show own_Go p e below _ (T5.setTop (mkF m 119 #[.val (.ref ao), .val (.double x1), .second, .val (.double x2), .second, .val (.double x3), .second, .val (.double x4), .second] []))
    exact J119 _ _ X5 hh5 N5 x1 x3 l1 l3
theorem own_ef10 (m : MethodId) (x0 : Addr) : entryFrame m #[(.ref x0)] 2 = mkF m 0 #[.val (.ref x0), .unset] [] := by first | (simp [entryFrame, mkF, argsToLocals, Value.category]; done) | rfl
theorem own_d_prog_91_22_0 : decode prog_91_method_22_code 0 = .ok (.aload_n 0, 1) := by decide +kernel
theorem own_d_prog_91_22_1 : decode prog_91_method_22_code 1 = .ok (.instanceof 32, 3) := by decide +kernel
theorem own_d_prog_91_22_4 : decode prog_91_method_22_code 4 = .ok (.ifCond .eq 10, 3) := by decide +kernel
theorem own_d_prog_91_22_7 : decode prog_91_method_22_code 7 = .ok (.aload_n 0, 1) := by decide +kernel
theorem own_d_prog_91_22_8 : decode prog_91_method_22_code 8 = .ok (.checkcast 32, 3) := by decide +kernel
theorem own_d_prog_91_22_11 : decode prog_91_method_22_code 11 = .ok (.astore_n 1, 1) := by decide +kernel
theorem own_d_prog_91_22_12 : decode prog_91_method_22_code 12 = .ok (.aload_n 1, 1) := by decide +kernel
theorem own_d_prog_91_22_13 : decode prog_91_method_22_code 13 = .ok (.areturn, 1) := by decide +kernel
def own_Q_own_alike (Z : State) (ao : Addr) (h0 : Heap) (n0 : Nat) (v : Option Value) (h : Heap) (L : List Loc) : Prop := v = some (.ref ao) ∧ Fr n0 L ∧ h = h0
set_option maxRecDepth 65536 in
set_option maxHeartbeats 40000000 in
theorem own_alike (l : Launch) (Z : State) (a0 : Array Value) (hw : ∀ d ∈ tables_1, d.before a0 Z = true) (ws : List Jvm.Cond) (ao : Addr) (h0 : Heap) (n0 : Nat) (Z0 : n0 ≤ h0.size) (EO : Exa Z h0 ao "com/example/thicket/thicket/Rect") :
    MetFree l (⟨"com/example/thicket/thicket/Rect", "alike", "(Lcom/example/thicket/thicket/Box;)Lcom/example/thicket/thicket/Rect;"⟩ : MethodName) (head1 (Jvm.Cond.code (⟨"com/example/thicket/thicket/Rect", "alike", "(Lcom/example/thicket/thicket/Box;)Lcom/example/thicket/thicket/Rect;"⟩ : MethodName) prog_91_method_22_code 2 (some (.object "com/example/thicket/thicket/Rect")) :: ws) ({ frames := 0, cells := 0, slots := 0, locals := 0 } : Room)) (fun av_ U => av_ = #[(.ref ao)] ∧ Z.Warmed39 U.vm ∧ U.heap = h0) (fun _ _ _ _ _ => True) (fun _ U o U' => ∃ v L, o = .returned v ∧ own_Q_own_alike Z ao h0 n0 v U'.heap L ∧ FrameEnd U o U' L ({ frames := 0, cells := 0, slots := 0, locals := 0 } : Room).cells ({ frames := 0, cells := 0, slots := 0, locals := 0 } : Room).slots) := by
  refine MetFree.of_bodySF (plainFor_of_name own_pn3) hisR ?_
  intro p e s m args below meth c s₁ Bd hml0 hP hK
  obtain ⟨rfl, hZ, hh⟩ := hP
  have hx := Bd.exec
  have hby := Bd.bytes
  have hml : c.maxLocals = 2 := hml0
  have hown : s.vm.findClass "com/example/thicket/thicket/Rect" = some m.cls := findClass_of_methodNamed Bd.named
  have hnm := (name_of_methodNamed Bd.named Bd.method).1
  have X0 : Stand p l e ({ frames := 0, cells := 0, slots := 0, locals := 0 } : Room) s m #[(.ref ao)] below meth c s₁ [] 0 0 := Stand.of_body Bd
  have e0 : s₁.heap = h0 := by rw [← hh, Bd.state]; rfl
  have N0 := Fr.nil n0
  suffices hgo : own_Go p e below (fun o U' => ∃ v L, o = .returned v ∧ own_Q_own_alike Z ao h0 n0 v U'.heap L ∧ FrameEnd s o U' L ({ frames := 0, cells := 0, slots := 0, locals := 0 } : Room).cells ({ frames := 0, cells := 0, slots := 0, locals := 0 } : Room).slots) (s₁.setTop (mkF m 0 #[.val (.ref ao), .unset] [])) by
    obtain ⟨s₂, o, h1, h2, h3, h4⟩ := hgo
    exact ⟨s₂, o, castTop (own_ef10 m ao) h1, h2, h3, h4⟩
  show own_Go p e below _ (s₁.setTop (mkF m 0 #[.val (.ref ao), .unset] []))
  refine own_Go.st (fun _ kt => XS.aloadN X0.here hx rfl (hb hby own_d_prog_91_22_0) rfl rfl kt) ?_
  show own_Go p e below _ (s₁.setTop (mkF m 1 #[.val (.ref ao), .unset] [(.ref ao)]))
  obtain ⟨T1, X1, e1, st1⟩ := instY X0 hx hZ hown (hw _ (List.mem_of_getElem? (i := 50) rfl)) e0 (Ins.self EO) (g := (mkF m 1 #[.val (.ref ao), .unset] [(.ref ao)])) rfl rfl (hb hby own_d_prog_91_22_1)
  refine own_Go.st st1 ?_
  show own_Go p e below _ (T1.setTop (mkF m 4 #[.val (.ref ao), .unset] [(.int (1 : Int32))]))
  refine own_Go.st (fun _ kt => XS.ifNo X1.here hx rfl (hb hby own_d_prog_91_22_4) rfl ((if0 _ _).trans (feq (by decide)).1) kt) ?_
  show own_Go p e below _ (T1.setTop (mkF m 7 #[.val (.ref ao), .unset] []))
  refine own_Go.st (fun _ kt => XS.aloadN X1.here hx rfl (hb hby own_d_prog_91_22_7) rfl rfl kt) ?_
  show own_Go p e below _ (T1.setTop (mkF m 8 #[.val (.ref ao), .unset] [(.ref ao)]))
  obtain ⟨T2, X2, e2, st2⟩ := castY X1 hx hZ hown (hw _ (List.mem_of_getElem? (i := 50) rfl)) e1 (Ins.self EO) (g := (mkF m 8 #[.val (.ref ao), .unset] [(.ref ao)])) rfl rfl (hb hby own_d_prog_91_22_8)
  refine own_Go.st st2 ?_
  show own_Go p e below _ (T2.setTop (mkF m 11 #[.val (.ref ao), .unset] [(.ref ao)]))
  refine own_Go.st (fun _ kt => XS.astoreN X2.here hx rfl (hb hby own_d_prog_91_22_11) rfl rfl (l' := #[.val (.ref ao), .val (.ref ao)]) rfl kt) ?_
  show own_Go p e below _ (T2.setTop (mkF m 12 #[.val (.ref ao), .val (.ref ao)] []))
  refine own_Go.st (fun _ kt => XS.aloadN X2.here hx rfl (hb hby own_d_prog_91_22_12) rfl rfl kt) ?_
  show own_Go p e below _ (T2.setTop (mkF m 13 #[.val (.ref ao), .val (.ref ao)] [(.ref ao)]))
  exact own_retA X2 hx Bd.notSynchronized Bd.returns rfl rfl (hb hby own_d_prog_91_22_13) (by decide) (by decide) ⟨rfl, N0, e2⟩
theorem own_ef11 (m : MethodId) (x0 : Addr) (x1 : Addr) : entryFrame m #[(.ref x0), (.ref x1)] 2 = mkF m 0 #[.val (.ref x0), .val (.ref x1)] [] := by first | (simp [entryFrame, mkF, argsToLocals, Value.category]; done) | rfl
theorem own_d_prog_91_11_0 : decode prog_91_method_11_code 0 = .ok (.aload_n 0, 1) := by decide +kernel
theorem own_d_prog_91_11_1 : decode prog_91_method_11_code 1 = .ok (.getfield 31, 3) := by decide +kernel
theorem own_d_prog_91_11_4 : decode prog_91_method_11_code 4 = .ok (.aload_n 1, 1) := by decide +kernel
theorem own_d_prog_91_11_5 : decode prog_91_method_11_code 5 = .ok (.getfield 31, 3) := by decide +kernel
theorem own_d_prog_91_11_8 : decode prog_91_method_11_code 8 = .ok (.dcmp .g, 1) := by decide +kernel
theorem own_d_prog_91_11_9 : decode prog_91_method_11_code 9 = .ok (.ifCond .gt 43, 3) := by decide +kernel
theorem own_d_prog_91_11_52 : decode prog_91_method_11_code 52 = .ok (.iconst 0, 1) := by decide +kernel
theorem own_d_prog_91_11_53 : decode prog_91_method_11_code 53 = .ok (.ireturn, 1) := by decide +kernel
theorem own_d_prog_91_11_12 : decode prog_91_method_11_code 12 = .ok (.aload_n 1, 1) := by decide +kernel
theorem own_d_prog_91_11_13 : decode prog_91_method_11_code 13 = .ok (.getfield 40, 3) := by decide +kernel
theorem own_d_prog_91_11_16 : decode prog_91_method_11_code 16 = .ok (.aload_n 0, 1) := by decide +kernel
theorem own_d_prog_91_11_17 : decode prog_91_method_11_code 17 = .ok (.getfield 40, 3) := by decide +kernel
theorem own_d_prog_91_11_20 : decode prog_91_method_11_code 20 = .ok (.dcmp .g, 1) := by decide +kernel
theorem own_d_prog_91_11_21 : decode prog_91_method_11_code 21 = .ok (.ifCond .gt 31, 3) := by decide +kernel
theorem own_d_prog_91_11_24 : decode prog_91_method_11_code 24 = .ok (.aload_n 0, 1) := by decide +kernel
theorem own_d_prog_91_11_25 : decode prog_91_method_11_code 25 = .ok (.getfield 37, 3) := by decide +kernel
theorem own_d_prog_91_11_28 : decode prog_91_method_11_code 28 = .ok (.aload_n 1, 1) := by decide +kernel
theorem own_d_prog_91_11_29 : decode prog_91_method_11_code 29 = .ok (.getfield 37, 3) := by decide +kernel
theorem own_d_prog_91_11_32 : decode prog_91_method_11_code 32 = .ok (.dcmp .g, 1) := by decide +kernel
theorem own_d_prog_91_11_33 : decode prog_91_method_11_code 33 = .ok (.ifCond .gt 19, 3) := by decide +kernel
theorem own_d_prog_91_11_36 : decode prog_91_method_11_code 36 = .ok (.aload_n 1, 1) := by decide +kernel
theorem own_d_prog_91_11_37 : decode prog_91_method_11_code 37 = .ok (.getfield 43, 3) := by decide +kernel
theorem own_d_prog_91_11_40 : decode prog_91_method_11_code 40 = .ok (.aload_n 0, 1) := by decide +kernel
theorem own_d_prog_91_11_41 : decode prog_91_method_11_code 41 = .ok (.getfield 43, 3) := by decide +kernel
theorem own_d_prog_91_11_44 : decode prog_91_method_11_code 44 = .ok (.dcmp .g, 1) := by decide +kernel
theorem own_d_prog_91_11_45 : decode prog_91_method_11_code 45 = .ok (.ifCond .gt 7, 3) := by decide +kernel
theorem own_d_prog_91_11_48 : decode prog_91_method_11_code 48 = .ok (.iconst 1, 1) := by decide +kernel
theorem own_d_prog_91_11_49 : decode prog_91_method_11_code 49 = .ok (.goto 4, 3) := by decide +kernel
def own_Q_own_containsR (Z : State) (ao ab : Addr) (x1 x2 x3 x4 y1 y2 y3 y4 : UInt64) (a1 a2 a3 a4 b1 b2 b3 b4 : Int64) (h0 : Heap) (n0 : Nat) (v : Option Value) (h : Heap) (L : List Loc) : Prop := v = some (.int (own_cv a1 a2 a3 a4 b1 b2 b3 b4)) ∧ Fr n0 L ∧ h = h0
set_option maxRecDepth 65536 in
set_option maxHeartbeats 40000000 in
theorem own_containsR (l : Launch) (Z : State) (a0 : Array Value) (hw : ∀ d ∈ tables_1, d.before a0 Z = true) (ws : List Jvm.Cond) (ao ab : Addr) (x1 x2 x3 x4 y1 y2 y3 y4 : UInt64) (a1 a2 a3 a4 b1 b2 b3 b4 : Int64) (h0 : Heap) (n0 : Nat) (Z0 : n0 ≤ h0.size) (F1 : Fld Z h0 ao "com/example/thicket/thicket/Rect" "minX" "D" (.double x1)) (G1 : Fld Z h0 ab "com/example/thicket/thicket/Rect" "minX" "D" (.double y1)) (F2 : Fld Z h0 ao "com/example/thicket/thicket/Rect" "minY" "D" (.double x2)) (G2 : Fld Z h0 ab "com/example/thicket/thicket/Rect" "minY" "D" (.double y2)) (F3 : Fld Z h0 ao "com/example/thicket/thicket/Rect" "maxX" "D" (.double x3)) (G3 : Fld Z h0 ab "com/example/thicket/thicket/Rect" "maxX" "D" (.double y3)) (F4 : Fld Z h0 ao "com/example/thicket/thicket/Rect" "maxY" "D" (.double x4)) (G4 : Fld Z h0 ab "com/example/thicket/thicket/Rect" "maxY" "D" (.double y4)) (l1 : own_like x1 a1) (m1 : own_like y1 b1) (u1 : B53 a1) (v1 : B53 b1) (l2 : own_like x2 a2) (m2 : own_like y2 b2) (u2 : B53 a2) (v2 : B53 b2) (l3 : own_like x3 a3) (m3 : own_like y3 b3) (u3 : B53 a3) (v3 : B53 b3) (l4 : own_like x4 a4) (m4 : own_like y4 b4) (u4 : B53 a4) (v4 : B53 b4) :
    MetFree l (⟨"com/example/thicket/thicket/Rect", "contains", "(Lcom/example/thicket/thicket/Rect;)Z"⟩ : MethodName) (head1 (Jvm.Cond.code (⟨"com/example/thicket/thicket/Rect", "contains", "(Lcom/example/thicket/thicket/Rect;)Z"⟩ : MethodName) prog_91_method_11_code 2 (some .boolean) :: ws) ({ frames := 0, cells := 0, slots := 0, locals := 0 } : Room)) (fun av_ U => av_ = #[(.ref ao), (.ref ab)] ∧ Z.Warmed39 U.vm ∧ U.heap = h0) (fun _ _ _ _ _ => True) (fun _ U o U' => ∃ v L, o = .returned v ∧ own_Q_own_containsR Z ao ab x1 x2 x3 x4 y1 y2 y3 y4 a1 a2 a3 a4 b1 b2 b3 b4 h0 n0 v U'.heap L ∧ FrameEnd U o U' L ({ frames := 0, cells := 0, slots := 0, locals := 0 } : Room).cells ({ frames := 0, cells := 0, slots := 0, locals := 0 } : Room).slots) := by
  refine MetFree.of_bodySF (plainFor_of_name own_pn3) hisR ?_
  intro p e s m args below meth c s₁ Bd hml0 hP hK
  obtain ⟨rfl, hZ, hh⟩ := hP
  have hx := Bd.exec
  have hby := Bd.bytes
  have hml : c.maxLocals = 2 := hml0
  have hown : s.vm.findClass "com/example/thicket/thicket/Rect" = some m.cls := findClass_of_methodNamed Bd.named
  have hnm := (name_of_methodNamed Bd.named Bd.method).1
  have X0 : Stand p l e ({ frames := 0, cells := 0, slots := 0, locals := 0 } : Room) s m #[(.ref ao), (.ref ab)] below meth c s₁ [] 0 0 := Stand.of_body Bd
  have e0 : s₁.heap = h0 := by rw [← hh, Bd.state]; rfl
  have N0 := Fr.nil n0
  suffices hgo : own_Go p e below (fun o U' => ∃ v L, o = .returned v ∧ own_Q_own_containsR Z ao ab x1 x2 x3 x4 y1 y2 y3 y4 a1 a2 a3 a4 b1 b2 b3 b4 h0 n0 v U'.heap L ∧ FrameEnd s o U' L ({ frames := 0, cells := 0, slots := 0, locals := 0 } : Room).cells ({ frames := 0, cells := 0, slots := 0, locals := 0 } : Room).slots) (s₁.setTop (mkF m 0 #[.val (.ref ao), .val (.ref ab)] [])) by
    obtain ⟨s₂, o, h1, h2, h3, h4⟩ := hgo
    exact ⟨s₂, o, castTop (own_ef11 m ao ab) h1, h2, h3, h4⟩
  show own_Go p e below _ (s₁.setTop (mkF m 0 #[.val (.ref ao), .val (.ref ab)] []))
  refine own_Go.st (fun _ kt => XS.aloadN X0.here hx rfl (hb hby own_d_prog_91_11_0) rfl rfl kt) ?_
  show own_Go p e below _ (s₁.setTop (mkF m 1 #[.val (.ref ao), .val (.ref ab)] [(.ref ao)]))
  obtain ⟨T1, X1, e1, st1⟩ := getF X0 hx hZ hown (host := "") (Or.inl (hw _ (List.mem_of_getElem? (i := 34) rfl))) Via.refl e0 F1 (g := (mkF m 1 #[.val (.ref ao), .val (.ref ab)] [(.ref ao)])) rfl rfl (hb hby own_d_prog_91_11_1)
  refine own_Go.st st1 ?_
  show own_Go p e below _ (T1.setTop (mkF m 4 #[.val (.ref ao), .val (.ref ab)] [(.double x1)]))
  refine own_Go.st (fun _ kt => XS.aloadN X1.here hx rfl (hb hby own_d_prog_91_11_4) rfl rfl kt) ?_
  show own_Go p e below _ (T1.setTop (mkF m 5 #[.val (.ref ao), .val (.ref ab)] [(.ref ab), (.double x1)]))
  obtain ⟨T2, X2, e2, st2⟩ := getF X1 hx hZ hown (host := "") (Or.inl (hw _ (List.mem_of_getElem? (i := 34) rfl))) Via.refl e1 G1 (g := (mkF m 5 #[.val (.ref ao), .val (.ref ab)] [(.ref ab), (.double x1)])) rfl rfl (hb hby own_d_prog_91_11_5)
  refine own_Go.st st2 ?_
  show own_Go p e below _ (T2.setTop (mkF m 8 #[.val (.ref ao), .val (.ref ab)] [(.double y1), (.double x1)]))
  refine own_Go.st (fun _ kt => XS.dcmpS X2.here hx rfl (hb hby own_d_prog_91_11_8) rfl (own_like_cmp l1 m1 u1 v1 _) kt) ?_
  show own_Go p e below _ (T2.setTop (mkF m 9 #[.val (.ref ao), .val (.ref ab)] [(.int (lcmpW a1 b1))]))
  by_cases hq0 : b1 < a1
  · refine own_Go.st (fun _ kt => XS.ifYes X2.here hx rfl (pc0 := 9) (pc' := 52) rfl (hb hby own_d_prog_91_11_9) rfl ((if0 _ _).trans (tlt ((lw_gt _ _).mpr hq0)).2.2.1) (by decide) (by decide) kt) ?_
    show own_Go p e below _ (T2.setTop (mkF m 52 #[.val (.ref ao), .val (.ref ab)] []))
    refine own_Go.st (fun _ kt => XS.iconst X2.here hx rfl (hb hby own_d_prog_91_11_52) kt) ?_
    show own_Go p e below _ (T2.setTop (mkF m 53 #[.val (.ref ao), .val (.ref ab)] [(.int (0 : Int32))]))
    exact own_retZ X2 hx Bd.notSynchronized Bd.returns (Or.inl rfl) (hb hby own_d_prog_91_11_53) (by decide) (by decide) ⟨by simp only [own_cv, if_pos hq0], N0, e2⟩
  · refine own_Go.st (fun _ kt => XS.ifNo X2.here hx rfl (hb hby own_d_prog_91_11_9) rfl ((if0 _ _).trans (flt (mt (lw_gt _ _).mp hq0)).2.2.1) kt) ?_
    show own_Go p e below _ (T2.setTop (mkF m 12 #[.val (.ref ao), .val (.ref ab)] []))
    refine own_Go.st (fun _ kt => XS.aloadN X2.here hx rfl (hb hby own_d_prog_91_11_12) rfl rfl kt) ?_
    show own_Go p e below _ (T2.setTop (mkF m 13 #[.val (.ref ao), .val (.ref ab)] [(.ref ab)]))
    obtain ⟨T3, X3, e3, st3⟩ := getF X2 hx hZ hown (host := "") (Or.inl (hw _ (List.mem_of_getElem? (i := 38) rfl))) Via.refl e2 G3 (g := (mkF m 13 #[.val (.ref ao), .val (.ref ab)] [(.ref ab)])) rfl rfl (hb hby own_d_prog_91_11_13)
    refine own_Go.st st3 ?_
    show own_Go p e below _ (T3.setTop (mkF m 16 #[.val (.ref ao), .val (.ref ab)] [(.double y3)]))
    refine own_Go.st (fun _ kt => XS.aloadN X3.here hx rfl (hb hby own_d_prog_91_11_16) rfl rfl kt) ?_
    show own_Go p e below _ (T3.setTop (mkF m 17 #[.val (.ref ao), .val (.ref ab)] [(.ref ao), (.double y3)]))
    obtain ⟨T4, X4, e4, st4⟩ := getF X3 hx hZ hown (host := "") (Or.inl (hw _ (List.mem_of_getElem? (i := 38) rfl))) Via.refl e3 F3 (g := (mkF m 17 #[.val (.ref ao), .val (.ref ab)] [(.ref ao), (.double y3)])) rfl rfl (hb hby own_d_prog_91_11_17)
    refine own_Go.st st4 ?_
    show own_Go p e below _ (T4.setTop (mkF m 20 #[.val (.ref ao), .val (.ref ab)] [(.double x3), (.double y3)]))
    refine own_Go.st (fun _ kt => XS.dcmpS X4.here hx rfl (hb hby own_d_prog_91_11_20) rfl (own_like_cmp m3 l3 v3 u3 _) kt) ?_
    show own_Go p e below _ (T4.setTop (mkF m 21 #[.val (.ref ao), .val (.ref ab)] [(.int (lcmpW b3 a3))]))
    by_cases hq1 : a3 < b3
    · refine own_Go.st (fun _ kt => XS.ifYes X4.here hx rfl (pc0 := 21) (pc' := 52) rfl (hb hby own_d_prog_91_11_21) rfl ((if0 _ _).trans (tlt ((lw_gt _ _).mpr hq1)).2.2.1) (by decide) (by decide) kt) ?_
      show own_Go p e below _ (T4.setTop (mkF m 52 #[.val (.ref ao), .val (.ref ab)] []))
      refine own_Go.st (fun _ kt => XS.iconst X4.here hx rfl (hb hby own_d_prog_91_11_52) kt) ?_
      show own_Go p e below _ (T4.setTop (mkF m 53 #[.val (.ref ao), .val (.ref ab)] [(.int (0 : Int32))]))
      exact own_retZ X4 hx Bd.notSynchronized Bd.returns (Or.inl rfl) (hb hby own_d_prog_91_11_53) (by decide) (by decide) ⟨by simp only [own_cv, if_neg hq0, if_pos hq1], N0, e4⟩
    · refine own_Go.st (fun _ kt => XS.ifNo X4.here hx rfl (hb hby own_d_prog_91_11_21) rfl ((if0 _ _).trans (flt (mt (lw_gt _ _).mp hq1)).2.2.1) kt) ?_
      show own_Go p e below _ (T4.setTop (mkF m 24 #[.val (.ref ao), .val (.ref ab)] []))
      refine own_Go.st (fun _ kt => XS.aloadN X4.here hx rfl (hb hby own_d_prog_91_11_24) rfl rfl kt) ?_
      show own_Go p e below _ (T4.setTop (mkF m 25 #[.val (.ref ao), .val (.ref ab)] [(.ref ao)]))
      obtain ⟨T5, X5, e5, st5⟩ := getF X4 hx hZ hown (host := "") (Or.inl (hw _ (List.mem_of_getElem? (i := 36) rfl))) Via.refl e4 F2 (g := (mkF m 25 #[.val (.ref ao), .val (.ref ab)] [(.ref ao)])) rfl rfl (hb hby own_d_prog_91_11_25)
      refine own_Go.st st5 ?_
      show own_Go p e below _ (T5.setTop (mkF m 28 #[.val (.ref ao), .val (.ref ab)] [(.double x2)]))
      refine own_Go.st (fun _ kt => XS.aloadN X5.here hx rfl (hb hby own_d_prog_91_11_28) rfl rfl kt) ?_
      show own_Go p e below _ (T5.setTop (mkF m 29 #[.val (.ref ao), .val (.ref ab)] [(.ref ab), (.double x2)]))
      obtain ⟨T6, X6, e6, st6⟩ := getF X5 hx hZ hown (host := "") (Or.inl (hw _ (List.mem_of_getElem? (i := 36) rfl))) Via.refl e5 G2 (g := (mkF m 29 #[.val (.ref ao), .val (.ref ab)] [(.ref ab), (.double x2)])) rfl rfl (hb hby own_d_prog_91_11_29)
      refine own_Go.st st6 ?_
      show own_Go p e below _ (T6.setTop (mkF m 32 #[.val (.ref ao), .val (.ref ab)] [(.double y2), (.double x2)]))
      refine own_Go.st (fun _ kt => XS.dcmpS X6.here hx rfl (hb hby own_d_prog_91_11_32) rfl (own_like_cmp l2 m2 u2 v2 _) kt) ?_
      show own_Go p e below _ (T6.setTop (mkF m 33 #[.val (.ref ao), .val (.ref ab)] [(.int (lcmpW a2 b2))]))
      by_cases hq2 : b2 < a2
      · refine own_Go.st (fun _ kt => XS.ifYes X6.here hx rfl (pc0 := 33) (pc' := 52) rfl (hb hby own_d_prog_91_11_33) rfl ((if0 _ _).trans (tlt ((lw_gt _ _).mpr hq2)).2.2.1) (by decide) (by decide) kt) ?_
        show own_Go p e below _ (T6.setTop (mkF m 52 #[.val (.ref ao), .val (.ref ab)] []))
        refine own_Go.st (fun _ kt => XS.iconst X6.here hx rfl (hb hby own_d_prog_91_11_52) kt) ?_
        show own_Go p e below _ (T6.setTop (mkF m 53 #[.val (.ref ao), .val (.ref ab)] [(.int (0 : Int32))]))
        exact own_retZ X6 hx Bd.notSynchronized Bd.returns (Or.inl rfl) (hb hby own_d_prog_91_11_53) (by decide) (by decide) ⟨by simp only [own_cv, if_neg hq0, if_neg hq1, if_pos hq2], N0, e6⟩
      · refine own_Go.st (fun _ kt => XS.ifNo X6.here hx rfl (hb hby own_d_prog_91_11_33) rfl ((if0 _ _).trans (flt (mt (lw_gt _ _).mp hq2)).2.2.1) kt) ?_
        show own_Go p e below _ (T6.setTop (mkF m 36 #[.val (.ref ao), .val (.ref ab)] []))
        refine own_Go.st (fun _ kt => XS.aloadN X6.here hx rfl (hb hby own_d_prog_91_11_36) rfl rfl kt) ?_
        show own_Go p e below _ (T6.setTop (mkF m 37 #[.val (.ref ao), .val (.ref ab)] [(.ref ab)]))
        obtain ⟨T7, X7, e7, st7⟩ := getF X6 hx hZ hown (host := "") (Or.inl (hw _ (List.mem_of_getElem? (i := 40) rfl))) Via.refl e6 G4 (g := (mkF m 37 #[.val (.ref ao), .val (.ref ab)] [(.ref ab)])) rfl rfl (hb hby own_d_prog_91_11_37)
        refine own_Go.st st7 ?_
        show own_Go p e below _ (T7.setTop (mkF m 40 #[.val (.ref ao), .val (.ref ab)] [(.double y4)]))
        refine own_Go.st (fun _ kt => XS.aloadN X7.here hx rfl (hb hby own_d_prog_91_11_40) rfl rfl kt) ?_
        show own_Go p e below _ (T7.setTop (mkF m 41 #[.val (.ref ao), .val (.ref ab)] [(.ref ao), (.double y4)]))
        obtain ⟨T8, X8, e8, st8⟩ := getF X7 hx hZ hown (host := "") (Or.inl (hw _ (List.mem_of_getElem? (i := 40) rfl))) Via.refl e7 F4 (g := (mkF m 41 #[.val (.ref ao), .val (.ref ab)] [(.ref ao), (.double y4)])) rfl rfl (hb hby own_d_prog_91_11_41)
        refine own_Go.st st8 ?_
        show own_Go p e below _ (T8.setTop (mkF m 44 #[.val (.ref ao), .val (.ref ab)] [(.double x4), (.double y4)]))
        refine own_Go.st (fun _ kt => XS.dcmpS X8.here hx rfl (hb hby own_d_prog_91_11_44) rfl (own_like_cmp m4 l4 v4 u4 _) kt) ?_
        show own_Go p e below _ (T8.setTop (mkF m 45 #[.val (.ref ao), .val (.ref ab)] [(.int (lcmpW b4 a4))]))
        by_cases hq3 : a4 < b4
        · refine own_Go.st (fun _ kt => XS.ifYes X8.here hx rfl (pc0 := 45) (pc' := 52) rfl (hb hby own_d_prog_91_11_45) rfl ((if0 _ _).trans (tlt ((lw_gt _ _).mpr hq3)).2.2.1) (by decide) (by decide) kt) ?_
          show own_Go p e below _ (T8.setTop (mkF m 52 #[.val (.ref ao), .val (.ref ab)] []))
          refine own_Go.st (fun _ kt => XS.iconst X8.here hx rfl (hb hby own_d_prog_91_11_52) kt) ?_
          show own_Go p e below _ (T8.setTop (mkF m 53 #[.val (.ref ao), .val (.ref ab)] [(.int (0 : Int32))]))
          exact own_retZ X8 hx Bd.notSynchronized Bd.returns (Or.inl rfl) (hb hby own_d_prog_91_11_53) (by decide) (by decide) ⟨by simp only [own_cv, if_neg hq0, if_neg hq1, if_neg hq2, if_pos hq3], N0, e8⟩
        · refine own_Go.st (fun _ kt => XS.ifNo X8.here hx rfl (hb hby own_d_prog_91_11_45) rfl ((if0 _ _).trans (flt (mt (lw_gt _ _).mp hq3)).2.2.1) kt) ?_
          show own_Go p e below _ (T8.setTop (mkF m 48 #[.val (.ref ao), .val (.ref ab)] []))
          refine own_Go.st (fun _ kt => XS.iconst X8.here hx rfl (hb hby own_d_prog_91_11_48) kt) ?_
          show own_Go p e below _ (T8.setTop (mkF m 49 #[.val (.ref ao), .val (.ref ab)] [(.int (1 : Int32))]))
          refine own_Go.st (fun _ kt => XS.goto X8.here hx rfl (pc0 := 49) (pc' := 53) rfl (hb hby own_d_prog_91_11_49) (by decide) (by decide) kt) ?_
          show own_Go p e below _ (T8.setTop (mkF m 53 #[.val (.ref ao), .val (.ref ab)] [(.int (1 : Int32))]))
          exact own_retZ X8 hx Bd.notSynchronized Bd.returns (Or.inr rfl) (hb hby own_d_prog_91_11_53) (by decide) (by decide) ⟨by simp only [own_cv, if_neg hq0, if_neg hq1, if_neg hq2, if_neg hq3], N0, e8⟩
theorem own_ef12 (m : MethodId) (x0 : Addr) (x1 : Addr) : entryFrame m #[(.ref x0), (.ref x1)] 2 = mkF m 0 #[.val (.ref x0), .val (.ref x1)] [] := by first | (simp [entryFrame, mkF, argsToLocals, Value.category]; done) | rfl
theorem own_d_prog_91_6_0 : decode prog_91_method_6_code 0 = .ok (.aload_n 0, 1) := by decide +kernel
theorem own_d_prog_91_6_1 : decode prog_91_method_6_code 1 = .ok (.aload_n 1, 1) := by decide +kernel
theorem own_d_prog_91_6_2 : decode prog_91_method_6_code 2 = .ok (.invokestatic 52, 3) := by decide +kernel
theorem own_pd5 : parseMethodDescriptor "(Lcom/example/thicket/thicket/Box;)Lcom/example/thicket/thicket/Rect;" = some ⟨[(.object "com/example/thicket/thicket/Box")], some (.object "com/example/thicket/thicket/Rect")⟩ := by decide +kernel
theorem own_pd6 : parseMethodDescriptor "(Lcom/example/thicket/thicket/Rect;)Z" = some ⟨[(.object "com/example/thicket/thicket/Rect")], some .boolean⟩ := by decide +kernel
theorem own_d_prog_91_6_5 : decode prog_91_method_6_code 5 = .ok (.invokevirtual 60, 3) := by decide +kernel
theorem own_d_prog_91_6_8 : decode prog_91_method_6_code 8 = .ok (.ireturn, 1) := by decide +kernel
def own_Q_own_containsB (Z : State) (ao ab : Addr) (x1 x2 x3 x4 y1 y2 y3 y4 : UInt64) (a1 a2 a3 a4 b1 b2 b3 b4 : Int64) (h0 : Heap) (n0 : Nat) (v : Option Value) (h : Heap) (L : List Loc) : Prop := v = some (.int (own_cv a1 a2 a3 a4 b1 b2 b3 b4)) ∧ Fr n0 L ∧ h = h0
set_option maxRecDepth 65536 in
set_option maxHeartbeats 40000000 in
theorem own_containsB (l : Launch) (Z : State) (a0 : Array Value) (hw : ∀ d ∈ tables_1, d.before a0 Z = true) (ws : List Jvm.Cond) (ao ab : Addr) (x1 x2 x3 x4 y1 y2 y3 y4 : UInt64) (a1 a2 a3 a4 b1 b2 b3 b4 : Int64) (h0 : Heap) (n0 : Nat) (Z0 : n0 ≤ h0.size) (EO : Exa Z h0 ao "com/example/thicket/thicket/Rect") (EB : Exa Z h0 ab "com/example/thicket/thicket/Rect") (F1 : Fld Z h0 ao "com/example/thicket/thicket/Rect" "minX" "D" (.double x1)) (G1 : Fld Z h0 ab "com/example/thicket/thicket/Rect" "minX" "D" (.double y1)) (F2 : Fld Z h0 ao "com/example/thicket/thicket/Rect" "minY" "D" (.double x2)) (G2 : Fld Z h0 ab "com/example/thicket/thicket/Rect" "minY" "D" (.double y2)) (F3 : Fld Z h0 ao "com/example/thicket/thicket/Rect" "maxX" "D" (.double x3)) (G3 : Fld Z h0 ab "com/example/thicket/thicket/Rect" "maxX" "D" (.double y3)) (F4 : Fld Z h0 ao "com/example/thicket/thicket/Rect" "maxY" "D" (.double x4)) (G4 : Fld Z h0 ab "com/example/thicket/thicket/Rect" "maxY" "D" (.double y4)) (l1 : own_like x1 a1) (m1 : own_like y1 b1) (u1 : B53 a1) (v1 : B53 b1) (l2 : own_like x2 a2) (m2 : own_like y2 b2) (u2 : B53 a2) (v2 : B53 b2) (l3 : own_like x3 a3) (m3 : own_like y3 b3) (u3 : B53 a3) (v3 : B53 b3) (l4 : own_like x4 a4) (m4 : own_like y4 b4) (u4 : B53 a4) (v4 : B53 b4) :
    MetFree l (⟨"com/example/thicket/thicket/Rect", "contains", "(Lcom/example/thicket/thicket/Box;)Z"⟩ : MethodName) (head1 (Jvm.Cond.code (⟨"com/example/thicket/thicket/Rect", "contains", "(Lcom/example/thicket/thicket/Box;)Z"⟩ : MethodName) prog_91_method_6_code 2 (some .boolean) :: ws) ({ frames := 1, cells := 0, slots := 0, locals := 14 } : Room)) (fun av_ U => av_ = #[(.ref ao), (.ref ab)] ∧ Z.Warmed39 U.vm ∧ U.heap = h0) (fun _ _ _ _ _ => True) (fun _ U o U' => ∃ v L, o = .returned v ∧ own_Q_own_containsB Z ao ab x1 x2 x3 x4 y1 y2 y3 y4 a1 a2 a3 a4 b1 b2 b3 b4 h0 n0 v U'.heap L ∧ FrameEnd U o U' L ({ frames := 1, cells := 0, slots := 0, locals := 14 } : Room).cells ({ frames := 1, cells := 0, slots := 0, locals := 14 } : Room).slots) := by
  refine MetFree.of_bodySF (plainFor_of_name own_pn3) hisR ?_
  intro p e s m args below meth c s₁ Bd hml0 hP hK
  obtain ⟨rfl, hZ, hh⟩ := hP
  have hx := Bd.exec
  have hby := Bd.bytes
  have hml : c.maxLocals = 2 := hml0
  have hown : s.vm.findClass "com/example/thicket/thicket/Rect" = some m.cls := findClass_of_methodNamed Bd.named
  have hnm := (name_of_methodNamed Bd.named Bd.method).1
  have X0 : Stand p l e ({ frames := 1, cells := 0, slots := 0, locals := 14 } : Room) s m #[(.ref ao), (.ref ab)] below meth c s₁ [] 0 0 := Stand.of_body Bd
  have e0 : s₁.heap = h0 := by rw [← hh, Bd.state]; rfl
  have N0 := Fr.nil n0
  suffices hgo : own_Go p e below (fun o U' => ∃ v L, o = .returned v ∧ own_Q_own_containsB Z ao ab x1 x2 x3 x4 y1 y2 y3 y4 a1 a2 a3 a4 b1 b2 b3 b4 h0 n0 v U'.heap L ∧ FrameEnd s o U' L ({ frames := 1, cells := 0, slots := 0, locals := 14 } : Room).cells ({ frames := 1, cells := 0, slots := 0, locals := 14 } : Room).slots) (s₁.setTop (mkF m 0 #[.val (.ref ao), .val (.ref ab)] [])) by
    obtain ⟨s₂, o, h1, h2, h3, h4⟩ := hgo
    exact ⟨s₂, o, castTop (own_ef12 m ao ab) h1, h2, h3, h4⟩
  show own_Go p e below _ (s₁.setTop (mkF m 0 #[.val (.ref ao), .val (.ref ab)] []))
  refine own_Go.st (fun _ kt => XS.aloadN X0.here hx rfl (hb hby own_d_prog_91_6_0) rfl rfl kt) ?_
  show own_Go p e below _ (s₁.setTop (mkF m 1 #[.val (.ref ao), .val (.ref ab)] [(.ref ao)]))
  refine own_Go.st (fun _ kt => XS.aloadN X0.here hx rfl (hb hby own_d_prog_91_6_1) rfl rfl kt) ?_
  show own_Go p e below _ (s₁.setTop (mkF m 2 #[.val (.ref ao), .val (.ref ab)] [(.ref ab), (.ref ao)]))
  obtain ⟨_, _, ⟨T1, L1, k1, n1⟩, -, X1, ⟨Lc1, hQ1, l1, y1, z1⟩, st1⟩ := Jvm.LawKit.callS X0 hx (y := (⟨"com/example/thicket/thicket/Rect", "alike", "(Lcom/example/thicket/thicket/Box;)Lcom/example/thicket/thicket/Rect;"⟩ : MethodName)) hown (mvT hZ (hw _ (List.mem_of_getElem? (i := 47) rfl))) (mvT hZ (hw _ (List.mem_of_getElem? (i := 48) rfl))) (mvT hZ (hw _ (List.mem_of_getElem? (i := 9) rfl))) (mvT hZ (hw _ (List.mem_of_getElem? (i := 49) rfl))) (by decide) (backOf (W := 1) (own_alike l Z a0 hw [] ab h0 n0 Z0 EB) hZ (hw _ (List.mem_of_getElem? (i := 49) rfl)) (hw _ (List.mem_of_getElem? (i := 9) rfl)) (by decide) (by decide)) (g := (mkF m 2 #[.val (.ref ao), .val (.ref ab)] [(.ref ab), (.ref ao)])) rfl (by rw [hml]; rfl) (argsL := [(.ref ab)]) (rest := [(.ref ao)]) (lenOf own_pd5 rfl) rfl (by show 2 * 0 + _ ≤ _; exact Nat.le_of_eq rfl) (hb hby own_d_prog_91_6_2) (fun _ _ => ⟨rfl, e0, (by decide : 0 + 0 ≤ _), (by decide : 0 + 0 ≤ _)⟩)
  dsimp only [Pt.U, Pt.locs, Pt.cells, Pt.slots] at X1 l1 y1 z1 st1 hQ1
  subst l1 y1 z1
  obtain ⟨rfl, N1q, hh1⟩ := hQ1
  have N1 := Fr.app N0 N1q
  refine own_Go.st (fun _ kt => st1 _ kt) ?_
  show own_Go p e below _ (T1.setTop (mkF m 5 #[.val (.ref ao), .val (.ref ab)] [(.ref ab), (.ref ao)]))
  obtain ⟨cq2, kq2, q2a, q2b, q2c⟩ := isOf hZ hh1 EO
  obtain ⟨_, _, ⟨T2, L2, k2, n2⟩, -, X2, ⟨Lc2, hQ2, l2, y2, z2⟩, st2⟩ := X1.virtualBack hx (y := (⟨"com/example/thicket/thicket/Rect", "contains", "(Lcom/example/thicket/thicket/Rect;)Z"⟩ : MethodName)) (z := (⟨"com/example/thicket/thicket/Rect", "contains", "(Lcom/example/thicket/thicket/Rect;)Z"⟩ : MethodName)) hown (mvT hZ (hw _ (List.mem_of_getElem? (i := 52) rfl))) (mvT hZ (hw _ (List.mem_of_getElem? (i := 53) rfl))) (notFace_of_selects (args := #[]) (mvT hZ (hw _ (List.mem_of_getElem? (i := 55) rfl)))) (mvT hZ (hw _ (List.mem_of_getElem? (i := 55) rfl))) (mvT hZ (hw _ (List.mem_of_getElem? (i := 54) rfl))) (by decide) (backOf (W := 0) (own_containsR l Z a0 hw [] ao ab x1 x2 x3 x4 y1 y2 y3 y4 a1 a2 a3 a4 b1 b2 b3 b4 h0 n0 Z0 F1 G1 F2 G2 F3 G3 F4 G4 l1 m1 u1 v1 l2 m2 u2 v2 l3 m3 u3 v3 l4 m4 u4 v4) hZ (hw _ (List.mem_of_getElem? (i := 56) rfl)) (hw _ (List.mem_of_getElem? (i := 9) rfl)) (by decide) (by decide)) q2a q2c (g := (mkF m 5 #[.val (.ref ao), .val (.ref ab)] [(.ref ab), (.ref ao)])) rfl (by rw [hml]; rfl) (Steps.refl _) (argsL := [(.ref ab)]) (rest := []) (lenOf own_pd6 rfl) rfl (by show 2 * 0 + _ ≤ _; exact Nat.le_of_eq rfl) (hb hby own_d_prog_91_6_5) (fun _ _ => ⟨rfl, hh1, (by decide : 0 + 0 ≤ _), (by decide : 0 + 0 ≤ _)⟩)
  dsimp only [Pt.U, Pt.locs, Pt.cells, Pt.slots] at X2 l2 y2 z2 st2 hQ2
  subst l2 y2 z2
  obtain ⟨rfl, N2q, hh2⟩ := hQ2
  have N2 := Fr.app N1 N2q
  refine own_Go.st (fun _ kt => st2.trans kt) ?_
  show own_Go p e below _ (T2.setTop (mkF m 8 #[.val (.ref ao), .val (.ref ab)] [(.int (own_cv a1 a2 a3 a4 b1 b2 b3 b4))]))
  exact own_retZ X2 hx Bd.notSynchronized Bd.returns (own_cv01 a1 a2 a3 a4 b1 b2 b3 b4) (hb hby own_d_prog_91_6_8) (by decide) (by decide) ⟨rfl, N2, hh2⟩
theorem own_ef13 (m : MethodId) (x0 : Int64) (x1 : Int64) (x2 : Int64) (x3 : Int64) (x4 : Int32) : entryFrame m #[(.long x0), (.long x1), (.long x2), (.long x3), (.int x4)] maxLocals = mkF m 0 #[.val (.long x0), .second, .val (.long x1), .second, .val (.long x2), .second, .val (.long x3), .second, .val (.int x4), .unset, .unset, .unset, .unset, .unset, .unset, .unset, .unset, .unset, .unset, .unset, .unset, .unset, .unset, .unset, .unset, .unset, .unset, .unset] [] := by first | (simp [entryFrame, mkF, argsToLocals, Value.category, maxLocals]; done) | rfl
theorem own_pd7 : parseMethodDescriptor "(II)I" = some ⟨[.int, .int], some .int⟩ := by decide +kernel
theorem own_pd8 : parseMethodDescriptor "(III)D" = some ⟨[.int, .int, .int], some .double⟩ := by decide +kernel
theorem own_pd9 : parseMethodDescriptor "(DDDD)V" = some ⟨[.double, .double, .double, .double], none⟩ := by decide +kernel
theorem own_pd10 : parseMethodDescriptor "(Lcom/example/thicket/thicket/Box;)Z" = some ⟨[(.object "com/example/thicket/thicket/Box")], some .boolean⟩ := by decide +kernel
def own_Q_own_law (Z : State) (p0 p1 p2 p3 : Int64) (p4 : Int32) (h0 : Heap) (n0 : Nat) (v : Option Value) (h : Heap) (L : List Loc) : Prop := v = some (.int 1) ∧ Fr n0 L
set_option maxRecDepth 65536 in
set_option maxHeartbeats 40000000 in
theorem own_law (l : Launch) (Z : State) (a0 : Array Value) (hw : ∀ d ∈ tables_1, d.before a0 Z = true) (ws : List Jvm.Cond) (p0 p1 p2 p3 : Int64) (p4 : Int32) (h0 : Heap) (n0 : Nat) (Z0 : n0 ≤ h0.size)  :
    MetFree l x (head1 (Jvm.Cond.code x code maxLocals ret :: ws) room_1) (fun av_ U => av_ = #[(.long p0), (.long p1), (.long p2), (.long p3), (.int p4)] ∧ Z.Warmed39 U.vm ∧ U.heap = h0) (fun _ _ _ _ _ => True) (fun _ U o U' => ∃ v L, o = .returned v ∧ own_Q_own_law Z p0 p1 p2 p3 p4 h0 n0 v U'.heap L ∧ FrameEnd U o U' L room_1.cells room_1.slots) := by
  refine MetFree.of_bodySF (plainFor_of_name own_pn0) hisR ?_
  intro p e s m args below meth c s₁ Bd hml0 hP hK
  obtain ⟨rfl, hZ, hh⟩ := hP
  have hx := Bd.exec
  have hby := Bd.bytes
  have hml : c.maxLocals = 28 := hml0
  have hown : s.vm.findClass "com/example/thicket/thicket/RectContainsPinLaw" = some m.cls := findClass_of_methodNamed Bd.named
  have hnm := (name_of_methodNamed Bd.named Bd.method).1
  have X0 : Stand p l e room_1 s m #[(.long p0), (.long p1), (.long p2), (.long p3), (.int p4)] below meth c s₁ [] 0 0 := Stand.of_body Bd
  have e0 : s₁.heap = h0 := by rw [← hh, Bd.state]; rfl
  have N0 := Fr.nil n0
  suffices hgo : own_Go p e below (fun o U' => ∃ v L, o = .returned v ∧ own_Q_own_law Z p0 p1 p2 p3 p4 h0 n0 v U'.heap L ∧ FrameEnd s o U' L room_1.cells room_1.slots) (s₁.setTop (mkF m 0 #[.val (.long p0), .second, .val (.long p1), .second, .val (.long p2), .second, .val (.long p3), .second, .val (.int p4), .unset, .unset, .unset, .unset, .unset, .unset, .unset, .unset, .unset, .unset, .unset, .unset, .unset, .unset, .unset, .unset, .unset, .unset, .unset] [])) by
    obtain ⟨s₂, o, h1, h2, h3, h4⟩ := hgo
    exact ⟨s₂, o, castTop (own_ef13 m p0 p1 p2 p3 p4) h1, h2, h3, h4⟩
  show own_Go p e below _ (s₁.setTop (mkF m 0 #[.val (.long p0), .second, .val (.long p1), .second, .val (.long p2), .second, .val (.long p3), .second, .val (.int p4), .unset, .unset, .unset, .unset, .unset, .unset, .unset, .unset, .unset, .unset, .unset, .unset, .unset, .unset, .unset, .unset, .unset, .unset, .unset] []))
  refine own_Go.st (fun _ kt => XS.lloadN X0.here hx rfl (hb hby at_0) rfl kt) ?_
  show own_Go p e below _ (s₁.setTop (mkF m 1 #[.val (.long p0), .second, .val (.long p1), .second, .val (.long p2), .second, .val (.long p3), .second, .val (.int p4), .unset, .unset, .unset, .unset, .unset, .unset, .unset, .unset, .unset, .unset, .unset, .unset, .unset, .unset, .unset, .unset, .unset, .unset, .unset] [(.long p0)]))
  refine own_Go.st (fun _ kt => XS.l2i X0.here hx rfl (hb hby at_1) rfl kt) ?_
  show own_Go p e below _ (s₁.setTop (mkF m 2 #[.val (.long p0), .second, .val (.long p1), .second, .val (.long p2), .second, .val (.long p3), .second, .val (.int p4), .unset, .unset, .unset, .unset, .unset, .unset, .unset, .unset, .unset, .unset, .unset, .unset, .unset, .unset, .unset, .unset, .unset, .unset, .unset] [(.int (p0.toInt32))]))
  refine own_Go.st (fun _ kt => XS.istore X0.here hx rfl (hb hby at_2) rfl (l' := #[.val (.long p0), .second, .val (.long p1), .second, .val (.long p2), .second, .val (.long p3), .second, .val (.int p4), .val (.int (p0.toInt32)), .unset, .unset, .unset, .unset, .unset, .unset, .unset, .unset, .unset, .unset, .unset, .unset, .unset, .unset, .unset, .unset, .unset, .unset]) rfl kt) ?_
  show own_Go p e below _ (s₁.setTop (mkF m 4 #[.val (.long p0), .second, .val (.long p1), .second, .val (.long p2), .second, .val (.long p3), .second, .val (.int p4), .val (.int (p0.toInt32)), .unset, .unset, .unset, .unset, .unset, .unset, .unset, .unset, .unset, .unset, .unset, .unset, .unset, .unset, .unset, .unset, .unset, .unset] []))
  refine own_Go.st (fun _ kt => XS.lloadN X0.here hx rfl (hb hby at_4) rfl kt) ?_
  show own_Go p e below _ (s₁.setTop (mkF m 5 #[.val (.long p0), .second, .val (.long p1), .second, .val (.long p2), .second, .val (.long p3), .second, .val (.int p4), .val (.int (p0.toInt32)), .unset, .unset, .unset, .unset, .unset, .unset, .unset, .unset, .unset, .unset, .unset, .unset, .unset, .unset, .unset, .unset, .unset, .unset] [(.long p0)]))
  refine own_Go.st (fun _ kt => XS.bipush X0.here hx rfl (hb hby at_5) kt) ?_
  show own_Go p e below _ (s₁.setTop (mkF m 7 #[.val (.long p0), .second, .val (.long p1), .second, .val (.long p2), .second, .val (.long p3), .second, .val (.int p4), .val (.int (p0.toInt32)), .unset, .unset, .unset, .unset, .unset, .unset, .unset, .unset, .unset, .unset, .unset, .unset, .unset, .unset, .unset, .unset, .unset, .unset] [(.int (32 : Int32)), (.long p0)]))
  refine own_Go.st (fun _ kt => XS.lushr X0.here hx rfl (hb hby at_7) rfl kt) ?_
  show own_Go p e below _ (s₁.setTop (mkF m 8 #[.val (.long p0), .second, .val (.long p1), .second, .val (.long p2), .second, .val (.long p3), .second, .val (.int p4), .val (.int (p0.toInt32)), .unset, .unset, .unset, .unset, .unset, .unset, .unset, .unset, .unset, .unset, .unset, .unset, .unset, .unset, .unset, .unset, .unset, .unset] [(.long ((p0.toUInt64 >>> ((32 : Int32) &&& 0x3f).toInt64.toUInt64).toInt64))]))
  refine own_Go.st (fun _ kt => XS.l2i X0.here hx rfl (hb hby at_8) rfl kt) ?_
  show own_Go p e below _ (s₁.setTop (mkF m 9 #[.val (.long p0), .second, .val (.long p1), .second, .val (.long p2), .second, .val (.long p3), .second, .val (.int p4), .val (.int (p0.toInt32)), .unset, .unset, .unset, .unset, .unset, .unset, .unset, .unset, .unset, .unset, .unset, .unset, .unset, .unset, .unset, .unset, .unset, .unset] [(.int (((p0.toUInt64 >>> ((32 : Int32) &&& 0x3f).toInt64.toUInt64).toInt64).toInt32))]))
  refine own_Go.st (fun _ kt => XS.istore X0.here hx rfl (hb hby at_9) rfl (l' := #[.val (.long p0), .second, .val (.long p1), .second, .val (.long p2), .second, .val (.long p3), .second, .val (.int p4), .val (.int (p0.toInt32)), .val (.int (((p0.toUInt64 >>> ((32 : Int32) &&& 0x3f).toInt64.toUInt64).toInt64).toInt32)), .unset, .unset, .unset, .unset, .unset, .unset, .unset, .unset, .unset, .unset, .unset, .unset, .unset, .unset, .unset, .unset, .unset]) rfl kt) ?_
  show own_Go p e below _ (s₁.setTop (mkF m 11 #[.val (.long p0), .second, .val (.long p1), .second, .val (.long p2), .second, .val (.long p3), .second, .val (.int p4), .val (.int (p0.toInt32)), .val (.int (((p0.toUInt64 >>> ((32 : Int32) &&& 0x3f).toInt64.toUInt64).toInt64).toInt32)), .unset, .unset, .unset, .unset, .unset, .unset, .unset, .unset, .unset, .unset, .unset, .unset, .unset, .unset, .unset, .unset, .unset] []))
  refine own_Go.st (fun _ kt => XS.lloadN X0.here hx rfl (hb hby at_11) rfl kt) ?_
  show own_Go p e below _ (s₁.setTop (mkF m 12 #[.val (.long p0), .second, .val (.long p1), .second, .val (.long p2), .second, .val (.long p3), .second, .val (.int p4), .val (.int (p0.toInt32)), .val (.int (((p0.toUInt64 >>> ((32 : Int32) &&& 0x3f).toInt64.toUInt64).toInt64).toInt32)), .unset, .unset, .unset, .unset, .unset, .unset, .unset, .unset, .unset, .unset, .unset, .unset, .unset, .unset, .unset, .unset, .unset] [(.long p1)]))
  refine own_Go.st (fun _ kt => XS.l2i X0.here hx rfl (hb hby at_12) rfl kt) ?_
  show own_Go p e below _ (s₁.setTop (mkF m 13 #[.val (.long p0), .second, .val (.long p1), .second, .val (.long p2), .second, .val (.long p3), .second, .val (.int p4), .val (.int (p0.toInt32)), .val (.int (((p0.toUInt64 >>> ((32 : Int32) &&& 0x3f).toInt64.toUInt64).toInt64).toInt32)), .unset, .unset, .unset, .unset, .unset, .unset, .unset, .unset, .unset, .unset, .unset, .unset, .unset, .unset, .unset, .unset, .unset] [(.int (p1.toInt32))]))
  refine own_Go.st (fun _ kt => XS.istore X0.here hx rfl (hb hby at_13) rfl (l' := #[.val (.long p0), .second, .val (.long p1), .second, .val (.long p2), .second, .val (.long p3), .second, .val (.int p4), .val (.int (p0.toInt32)), .val (.int (((p0.toUInt64 >>> ((32 : Int32) &&& 0x3f).toInt64.toUInt64).toInt64).toInt32)), .val (.int (p1.toInt32)), .unset, .unset, .unset, .unset, .unset, .unset, .unset, .unset, .unset, .unset, .unset, .unset, .unset, .unset, .unset, .unset]) rfl kt) ?_
  show own_Go p e below _ (s₁.setTop (mkF m 15 #[.val (.long p0), .second, .val (.long p1), .second, .val (.long p2), .second, .val (.long p3), .second, .val (.int p4), .val (.int (p0.toInt32)), .val (.int (((p0.toUInt64 >>> ((32 : Int32) &&& 0x3f).toInt64.toUInt64).toInt64).toInt32)), .val (.int (p1.toInt32)), .unset, .unset, .unset, .unset, .unset, .unset, .unset, .unset, .unset, .unset, .unset, .unset, .unset, .unset, .unset, .unset] []))
  refine own_Go.st (fun _ kt => XS.lloadN X0.here hx rfl (hb hby at_15) rfl kt) ?_
  show own_Go p e below _ (s₁.setTop (mkF m 16 #[.val (.long p0), .second, .val (.long p1), .second, .val (.long p2), .second, .val (.long p3), .second, .val (.int p4), .val (.int (p0.toInt32)), .val (.int (((p0.toUInt64 >>> ((32 : Int32) &&& 0x3f).toInt64.toUInt64).toInt64).toInt32)), .val (.int (p1.toInt32)), .unset, .unset, .unset, .unset, .unset, .unset, .unset, .unset, .unset, .unset, .unset, .unset, .unset, .unset, .unset, .unset] [(.long p1)]))
  refine own_Go.st (fun _ kt => XS.bipush X0.here hx rfl (hb hby at_16) kt) ?_
  show own_Go p e below _ (s₁.setTop (mkF m 18 #[.val (.long p0), .second, .val (.long p1), .second, .val (.long p2), .second, .val (.long p3), .second, .val (.int p4), .val (.int (p0.toInt32)), .val (.int (((p0.toUInt64 >>> ((32 : Int32) &&& 0x3f).toInt64.toUInt64).toInt64).toInt32)), .val (.int (p1.toInt32)), .unset, .unset, .unset, .unset, .unset, .unset, .unset, .unset, .unset, .unset, .unset, .unset, .unset, .unset, .unset, .unset] [(.int (32 : Int32)), (.long p1)]))
  refine own_Go.st (fun _ kt => XS.lushr X0.here hx rfl (hb hby at_18) rfl kt) ?_
  show own_Go p e below _ (s₁.setTop (mkF m 19 #[.val (.long p0), .second, .val (.long p1), .second, .val (.long p2), .second, .val (.long p3), .second, .val (.int p4), .val (.int (p0.toInt32)), .val (.int (((p0.toUInt64 >>> ((32 : Int32) &&& 0x3f).toInt64.toUInt64).toInt64).toInt32)), .val (.int (p1.toInt32)), .unset, .unset, .unset, .unset, .unset, .unset, .unset, .unset, .unset, .unset, .unset, .unset, .unset, .unset, .unset, .unset] [(.long ((p1.toUInt64 >>> ((32 : Int32) &&& 0x3f).toInt64.toUInt64).toInt64))]))
  refine own_Go.st (fun _ kt => XS.l2i X0.here hx rfl (hb hby at_19) rfl kt) ?_
  show own_Go p e below _ (s₁.setTop (mkF m 20 #[.val (.long p0), .second, .val (.long p1), .second, .val (.long p2), .second, .val (.long p3), .second, .val (.int p4), .val (.int (p0.toInt32)), .val (.int (((p0.toUInt64 >>> ((32 : Int32) &&& 0x3f).toInt64.toUInt64).toInt64).toInt32)), .val (.int (p1.toInt32)), .unset, .unset, .unset, .unset, .unset, .unset, .unset, .unset, .unset, .unset, .unset, .unset, .unset, .unset, .unset, .unset] [(.int (((p1.toUInt64 >>> ((32 : Int32) &&& 0x3f).toInt64.toUInt64).toInt64).toInt32))]))
  refine own_Go.st (fun _ kt => XS.istore X0.here hx rfl (hb hby at_20) rfl (l' := #[.val (.long p0), .second, .val (.long p1), .second, .val (.long p2), .second, .val (.long p3), .second, .val (.int p4), .val (.int (p0.toInt32)), .val (.int (((p0.toUInt64 >>> ((32 : Int32) &&& 0x3f).toInt64.toUInt64).toInt64).toInt32)), .val (.int (p1.toInt32)), .val (.int (((p1.toUInt64 >>> ((32 : Int32) &&& 0x3f).toInt64.toUInt64).toInt64).toInt32)), .unset, .unset, .unset, .unset, .unset, .unset, .unset, .unset, .unset, .unset, .unset, .unset, .unset, .unset, .unset]) rfl kt) ?_
  show own_Go p e below _ (s₁.setTop (mkF m 22 #[.val (.long p0), .second, .val (.long p1), .second, .val (.long p2), .second, .val (.long p3), .second, .val (.int p4), .val (.int (p0.toInt32)), .val (.int (((p0.toUInt64 >>> ((32 : Int32) &&& 0x3f).toInt64.toUInt64).toInt64).toInt32)), .val (.int (p1.toInt32)), .val (.int (((p1.toUInt64 >>> ((32 : Int32) &&& 0x3f).toInt64.toUInt64).toInt64).toInt32)), .unset, .unset, .unset, .unset, .unset, .unset, .unset, .unset, .unset, .unset, .unset, .unset, .unset, .unset, .unset] []))
  refine own_Go.st (fun _ kt => XS.lload X0.here hx rfl (hb hby at_22) rfl kt) ?_
  show own_Go p e below _ (s₁.setTop (mkF m 24 #[.val (.long p0), .second, .val (.long p1), .second, .val (.long p2), .second, .val (.long p3), .second, .val (.int p4), .val (.int (p0.toInt32)), .val (.int (((p0.toUInt64 >>> ((32 : Int32) &&& 0x3f).toInt64.toUInt64).toInt64).toInt32)), .val (.int (p1.toInt32)), .val (.int (((p1.toUInt64 >>> ((32 : Int32) &&& 0x3f).toInt64.toUInt64).toInt64).toInt32)), .unset, .unset, .unset, .unset, .unset, .unset, .unset, .unset, .unset, .unset, .unset, .unset, .unset, .unset, .unset] [(.long p2)]))
  refine own_Go.st (fun _ kt => XS.l2i X0.here hx rfl (hb hby at_24) rfl kt) ?_
  show own_Go p e below _ (s₁.setTop (mkF m 25 #[.val (.long p0), .second, .val (.long p1), .second, .val (.long p2), .second, .val (.long p3), .second, .val (.int p4), .val (.int (p0.toInt32)), .val (.int (((p0.toUInt64 >>> ((32 : Int32) &&& 0x3f).toInt64.toUInt64).toInt64).toInt32)), .val (.int (p1.toInt32)), .val (.int (((p1.toUInt64 >>> ((32 : Int32) &&& 0x3f).toInt64.toUInt64).toInt64).toInt32)), .unset, .unset, .unset, .unset, .unset, .unset, .unset, .unset, .unset, .unset, .unset, .unset, .unset, .unset, .unset] [(.int (p2.toInt32))]))
  refine own_Go.st (fun _ kt => XS.istore X0.here hx rfl (hb hby at_25) rfl (l' := #[.val (.long p0), .second, .val (.long p1), .second, .val (.long p2), .second, .val (.long p3), .second, .val (.int p4), .val (.int (p0.toInt32)), .val (.int (((p0.toUInt64 >>> ((32 : Int32) &&& 0x3f).toInt64.toUInt64).toInt64).toInt32)), .val (.int (p1.toInt32)), .val (.int (((p1.toUInt64 >>> ((32 : Int32) &&& 0x3f).toInt64.toUInt64).toInt64).toInt32)), .val (.int (p2.toInt32)), .unset, .unset, .unset, .unset, .unset, .unset, .unset, .unset, .unset, .unset, .unset, .unset, .unset, .unset]) rfl kt) ?_
  show own_Go p e below _ (s₁.setTop (mkF m 27 #[.val (.long p0), .second, .val (.long p1), .second, .val (.long p2), .second, .val (.long p3), .second, .val (.int p4), .val (.int (p0.toInt32)), .val (.int (((p0.toUInt64 >>> ((32 : Int32) &&& 0x3f).toInt64.toUInt64).toInt64).toInt32)), .val (.int (p1.toInt32)), .val (.int (((p1.toUInt64 >>> ((32 : Int32) &&& 0x3f).toInt64.toUInt64).toInt64).toInt32)), .val (.int (p2.toInt32)), .unset, .unset, .unset, .unset, .unset, .unset, .unset, .unset, .unset, .unset, .unset, .unset, .unset, .unset] []))
  refine own_Go.st (fun _ kt => XS.lload X0.here hx rfl (hb hby at_27) rfl kt) ?_
  show own_Go p e below _ (s₁.setTop (mkF m 29 #[.val (.long p0), .second, .val (.long p1), .second, .val (.long p2), .second, .val (.long p3), .second, .val (.int p4), .val (.int (p0.toInt32)), .val (.int (((p0.toUInt64 >>> ((32 : Int32) &&& 0x3f).toInt64.toUInt64).toInt64).toInt32)), .val (.int (p1.toInt32)), .val (.int (((p1.toUInt64 >>> ((32 : Int32) &&& 0x3f).toInt64.toUInt64).toInt64).toInt32)), .val (.int (p2.toInt32)), .unset, .unset, .unset, .unset, .unset, .unset, .unset, .unset, .unset, .unset, .unset, .unset, .unset, .unset] [(.long p2)]))
  refine own_Go.st (fun _ kt => XS.bipush X0.here hx rfl (hb hby at_29) kt) ?_
  show own_Go p e below _ (s₁.setTop (mkF m 31 #[.val (.long p0), .second, .val (.long p1), .second, .val (.long p2), .second, .val (.long p3), .second, .val (.int p4), .val (.int (p0.toInt32)), .val (.int (((p0.toUInt64 >>> ((32 : Int32) &&& 0x3f).toInt64.toUInt64).toInt64).toInt32)), .val (.int (p1.toInt32)), .val (.int (((p1.toUInt64 >>> ((32 : Int32) &&& 0x3f).toInt64.toUInt64).toInt64).toInt32)), .val (.int (p2.toInt32)), .unset, .unset, .unset, .unset, .unset, .unset, .unset, .unset, .unset, .unset, .unset, .unset, .unset, .unset] [(.int (32 : Int32)), (.long p2)]))
  refine own_Go.st (fun _ kt => XS.lushr X0.here hx rfl (hb hby at_31) rfl kt) ?_
  show own_Go p e below _ (s₁.setTop (mkF m 32 #[.val (.long p0), .second, .val (.long p1), .second, .val (.long p2), .second, .val (.long p3), .second, .val (.int p4), .val (.int (p0.toInt32)), .val (.int (((p0.toUInt64 >>> ((32 : Int32) &&& 0x3f).toInt64.toUInt64).toInt64).toInt32)), .val (.int (p1.toInt32)), .val (.int (((p1.toUInt64 >>> ((32 : Int32) &&& 0x3f).toInt64.toUInt64).toInt64).toInt32)), .val (.int (p2.toInt32)), .unset, .unset, .unset, .unset, .unset, .unset, .unset, .unset, .unset, .unset, .unset, .unset, .unset, .unset] [(.long ((p2.toUInt64 >>> ((32 : Int32) &&& 0x3f).toInt64.toUInt64).toInt64))]))
  refine own_Go.st (fun _ kt => XS.l2i X0.here hx rfl (hb hby at_32) rfl kt) ?_
  show own_Go p e below _ (s₁.setTop (mkF m 33 #[.val (.long p0), .second, .val (.long p1), .second, .val (.long p2), .second, .val (.long p3), .second, .val (.int p4), .val (.int (p0.toInt32)), .val (.int (((p0.toUInt64 >>> ((32 : Int32) &&& 0x3f).toInt64.toUInt64).toInt64).toInt32)), .val (.int (p1.toInt32)), .val (.int (((p1.toUInt64 >>> ((32 : Int32) &&& 0x3f).toInt64.toUInt64).toInt64).toInt32)), .val (.int (p2.toInt32)), .unset, .unset, .unset, .unset, .unset, .unset, .unset, .unset, .unset, .unset, .unset, .unset, .unset, .unset] [(.int (((p2.toUInt64 >>> ((32 : Int32) &&& 0x3f).toInt64.toUInt64).toInt64).toInt32))]))
  refine own_Go.st (fun _ kt => XS.istore X0.here hx rfl (hb hby at_33) rfl (l' := #[.val (.long p0), .second, .val (.long p1), .second, .val (.long p2), .second, .val (.long p3), .second, .val (.int p4), .val (.int (p0.toInt32)), .val (.int (((p0.toUInt64 >>> ((32 : Int32) &&& 0x3f).toInt64.toUInt64).toInt64).toInt32)), .val (.int (p1.toInt32)), .val (.int (((p1.toUInt64 >>> ((32 : Int32) &&& 0x3f).toInt64.toUInt64).toInt64).toInt32)), .val (.int (p2.toInt32)), .val (.int (((p2.toUInt64 >>> ((32 : Int32) &&& 0x3f).toInt64.toUInt64).toInt64).toInt32)), .unset, .unset, .unset, .unset, .unset, .unset, .unset, .unset, .unset, .unset, .unset, .unset, .unset]) rfl kt) ?_
  show own_Go p e below _ (s₁.setTop (mkF m 35 #[.val (.long p0), .second, .val (.long p1), .second, .val (.long p2), .second, .val (.long p3), .second, .val (.int p4), .val (.int (p0.toInt32)), .val (.int (((p0.toUInt64 >>> ((32 : Int32) &&& 0x3f).toInt64.toUInt64).toInt64).toInt32)), .val (.int (p1.toInt32)), .val (.int (((p1.toUInt64 >>> ((32 : Int32) &&& 0x3f).toInt64.toUInt64).toInt64).toInt32)), .val (.int (p2.toInt32)), .val (.int (((p2.toUInt64 >>> ((32 : Int32) &&& 0x3f).toInt64.toUInt64).toInt64).toInt32)), .unset, .unset, .unset, .unset, .unset, .unset, .unset, .unset, .unset, .unset, .unset, .unset, .unset] []))
  refine own_Go.st (fun _ kt => XS.lload X0.here hx rfl (hb hby at_35) rfl kt) ?_
  show own_Go p e below _ (s₁.setTop (mkF m 37 #[.val (.long p0), .second, .val (.long p1), .second, .val (.long p2), .second, .val (.long p3), .second, .val (.int p4), .val (.int (p0.toInt32)), .val (.int (((p0.toUInt64 >>> ((32 : Int32) &&& 0x3f).toInt64.toUInt64).toInt64).toInt32)), .val (.int (p1.toInt32)), .val (.int (((p1.toUInt64 >>> ((32 : Int32) &&& 0x3f).toInt64.toUInt64).toInt64).toInt32)), .val (.int (p2.toInt32)), .val (.int (((p2.toUInt64 >>> ((32 : Int32) &&& 0x3f).toInt64.toUInt64).toInt64).toInt32)), .unset, .unset, .unset, .unset, .unset, .unset, .unset, .unset, .unset, .unset, .unset, .unset, .unset] [(.long p3)]))
  refine own_Go.st (fun _ kt => XS.l2i X0.here hx rfl (hb hby at_37) rfl kt) ?_
  show own_Go p e below _ (s₁.setTop (mkF m 38 #[.val (.long p0), .second, .val (.long p1), .second, .val (.long p2), .second, .val (.long p3), .second, .val (.int p4), .val (.int (p0.toInt32)), .val (.int (((p0.toUInt64 >>> ((32 : Int32) &&& 0x3f).toInt64.toUInt64).toInt64).toInt32)), .val (.int (p1.toInt32)), .val (.int (((p1.toUInt64 >>> ((32 : Int32) &&& 0x3f).toInt64.toUInt64).toInt64).toInt32)), .val (.int (p2.toInt32)), .val (.int (((p2.toUInt64 >>> ((32 : Int32) &&& 0x3f).toInt64.toUInt64).toInt64).toInt32)), .unset, .unset, .unset, .unset, .unset, .unset, .unset, .unset, .unset, .unset, .unset, .unset, .unset] [(.int (p3.toInt32))]))
  refine own_Go.st (fun _ kt => XS.istore X0.here hx rfl (hb hby at_38) rfl (l' := #[.val (.long p0), .second, .val (.long p1), .second, .val (.long p2), .second, .val (.long p3), .second, .val (.int p4), .val (.int (p0.toInt32)), .val (.int (((p0.toUInt64 >>> ((32 : Int32) &&& 0x3f).toInt64.toUInt64).toInt64).toInt32)), .val (.int (p1.toInt32)), .val (.int (((p1.toUInt64 >>> ((32 : Int32) &&& 0x3f).toInt64.toUInt64).toInt64).toInt32)), .val (.int (p2.toInt32)), .val (.int (((p2.toUInt64 >>> ((32 : Int32) &&& 0x3f).toInt64.toUInt64).toInt64).toInt32)), .val (.int (p3.toInt32)), .unset, .unset, .unset, .unset, .unset, .unset, .unset, .unset, .unset, .unset, .unset, .unset]) rfl kt) ?_
  show own_Go p e below _ (s₁.setTop (mkF m 40 #[.val (.long p0), .second, .val (.long p1), .second, .val (.long p2), .second, .val (.long p3), .second, .val (.int p4), .val (.int (p0.toInt32)), .val (.int (((p0.toUInt64 >>> ((32 : Int32) &&& 0x3f).toInt64.toUInt64).toInt64).toInt32)), .val (.int (p1.toInt32)), .val (.int (((p1.toUInt64 >>> ((32 : Int32) &&& 0x3f).toInt64.toUInt64).toInt64).toInt32)), .val (.int (p2.toInt32)), .val (.int (((p2.toUInt64 >>> ((32 : Int32) &&& 0x3f).toInt64.toUInt64).toInt64).toInt32)), .val (.int (p3.toInt32)), .unset, .unset, .unset, .unset, .unset, .unset, .unset, .unset, .unset, .unset, .unset, .unset] []))
  refine own_Go.st (fun _ kt => XS.lload X0.here hx rfl (hb hby at_40) rfl kt) ?_
  show own_Go p e below _ (s₁.setTop (mkF m 42 #[.val (.long p0), .second, .val (.long p1), .second, .val (.long p2), .second, .val (.long p3), .second, .val (.int p4), .val (.int (p0.toInt32)), .val (.int (((p0.toUInt64 >>> ((32 : Int32) &&& 0x3f).toInt64.toUInt64).toInt64).toInt32)), .val (.int (p1.toInt32)), .val (.int (((p1.toUInt64 >>> ((32 : Int32) &&& 0x3f).toInt64.toUInt64).toInt64).toInt32)), .val (.int (p2.toInt32)), .val (.int (((p2.toUInt64 >>> ((32 : Int32) &&& 0x3f).toInt64.toUInt64).toInt64).toInt32)), .val (.int (p3.toInt32)), .unset, .unset, .unset, .unset, .unset, .unset, .unset, .unset, .unset, .unset, .unset, .unset] [(.long p3)]))
  refine own_Go.st (fun _ kt => XS.bipush X0.here hx rfl (hb hby at_42) kt) ?_
  show own_Go p e below _ (s₁.setTop (mkF m 44 #[.val (.long p0), .second, .val (.long p1), .second, .val (.long p2), .second, .val (.long p3), .second, .val (.int p4), .val (.int (p0.toInt32)), .val (.int (((p0.toUInt64 >>> ((32 : Int32) &&& 0x3f).toInt64.toUInt64).toInt64).toInt32)), .val (.int (p1.toInt32)), .val (.int (((p1.toUInt64 >>> ((32 : Int32) &&& 0x3f).toInt64.toUInt64).toInt64).toInt32)), .val (.int (p2.toInt32)), .val (.int (((p2.toUInt64 >>> ((32 : Int32) &&& 0x3f).toInt64.toUInt64).toInt64).toInt32)), .val (.int (p3.toInt32)), .unset, .unset, .unset, .unset, .unset, .unset, .unset, .unset, .unset, .unset, .unset, .unset] [(.int (32 : Int32)), (.long p3)]))
  refine own_Go.st (fun _ kt => XS.lushr X0.here hx rfl (hb hby at_44) rfl kt) ?_
  show own_Go p e below _ (s₁.setTop (mkF m 45 #[.val (.long p0), .second, .val (.long p1), .second, .val (.long p2), .second, .val (.long p3), .second, .val (.int p4), .val (.int (p0.toInt32)), .val (.int (((p0.toUInt64 >>> ((32 : Int32) &&& 0x3f).toInt64.toUInt64).toInt64).toInt32)), .val (.int (p1.toInt32)), .val (.int (((p1.toUInt64 >>> ((32 : Int32) &&& 0x3f).toInt64.toUInt64).toInt64).toInt32)), .val (.int (p2.toInt32)), .val (.int (((p2.toUInt64 >>> ((32 : Int32) &&& 0x3f).toInt64.toUInt64).toInt64).toInt32)), .val (.int (p3.toInt32)), .unset, .unset, .unset, .unset, .unset, .unset, .unset, .unset, .unset, .unset, .unset, .unset] [(.long ((p3.toUInt64 >>> ((32 : Int32) &&& 0x3f).toInt64.toUInt64).toInt64))]))
  refine own_Go.st (fun _ kt => XS.l2i X0.here hx rfl (hb hby at_45) rfl kt) ?_
  show own_Go p e below _ (s₁.setTop (mkF m 46 #[.val (.long p0), .second, .val (.long p1), .second, .val (.long p2), .second, .val (.long p3), .second, .val (.int p4), .val (.int (p0.toInt32)), .val (.int (((p0.toUInt64 >>> ((32 : Int32) &&& 0x3f).toInt64.toUInt64).toInt64).toInt32)), .val (.int (p1.toInt32)), .val (.int (((p1.toUInt64 >>> ((32 : Int32) &&& 0x3f).toInt64.toUInt64).toInt64).toInt32)), .val (.int (p2.toInt32)), .val (.int (((p2.toUInt64 >>> ((32 : Int32) &&& 0x3f).toInt64.toUInt64).toInt64).toInt32)), .val (.int (p3.toInt32)), .unset, .unset, .unset, .unset, .unset, .unset, .unset, .unset, .unset, .unset, .unset, .unset] [(.int (((p3.toUInt64 >>> ((32 : Int32) &&& 0x3f).toInt64.toUInt64).toInt64).toInt32))]))
  refine own_Go.st (fun _ kt => XS.istore X0.here hx rfl (hb hby at_46) rfl (l' := #[.val (.long p0), .second, .val (.long p1), .second, .val (.long p2), .second, .val (.long p3), .second, .val (.int p4), .val (.int (p0.toInt32)), .val (.int (((p0.toUInt64 >>> ((32 : Int32) &&& 0x3f).toInt64.toUInt64).toInt64).toInt32)), .val (.int (p1.toInt32)), .val (.int (((p1.toUInt64 >>> ((32 : Int32) &&& 0x3f).toInt64.toUInt64).toInt64).toInt32)), .val (.int (p2.toInt32)), .val (.int (((p2.toUInt64 >>> ((32 : Int32) &&& 0x3f).toInt64.toUInt64).toInt64).toInt32)), .val (.int (p3.toInt32)), .val (.int (((p3.toUInt64 >>> ((32 : Int32) &&& 0x3f).toInt64.toUInt64).toInt64).toInt32)), .unset, .unset, .unset, .unset, .unset, .unset, .unset, .unset, .unset, .unset, .unset]) rfl kt) ?_
  show own_Go p e below _ (s₁.setTop (mkF m 48 #[.val (.long p0), .second, .val (.long p1), .second, .val (.long p2), .second, .val (.long p3), .second, .val (.int p4), .val (.int (p0.toInt32)), .val (.int (((p0.toUInt64 >>> ((32 : Int32) &&& 0x3f).toInt64.toUInt64).toInt64).toInt32)), .val (.int (p1.toInt32)), .val (.int (((p1.toUInt64 >>> ((32 : Int32) &&& 0x3f).toInt64.toUInt64).toInt64).toInt32)), .val (.int (p2.toInt32)), .val (.int (((p2.toUInt64 >>> ((32 : Int32) &&& 0x3f).toInt64.toUInt64).toInt64).toInt32)), .val (.int (p3.toInt32)), .val (.int (((p3.toUInt64 >>> ((32 : Int32) &&& 0x3f).toInt64.toUInt64).toInt64).toInt32)), .unset, .unset, .unset, .unset, .unset, .unset, .unset, .unset, .unset, .unset, .unset] []))
  refine own_Go.st (fun _ kt => XS.iload X0.here hx rfl (hb hby at_48) rfl kt) ?_
  show own_Go p e below _ (s₁.setTop (mkF m 50 #[.val (.long p0), .second, .val (.long p1), .second, .val (.long p2), .second, .val (.long p3), .second, .val (.int p4), .val (.int (p0.toInt32)), .val (.int (((p0.toUInt64 >>> ((32 : Int32) &&& 0x3f).toInt64.toUInt64).toInt64).toInt32)), .val (.int (p1.toInt32)), .val (.int (((p1.toUInt64 >>> ((32 : Int32) &&& 0x3f).toInt64.toUInt64).toInt64).toInt32)), .val (.int (p2.toInt32)), .val (.int (((p2.toUInt64 >>> ((32 : Int32) &&& 0x3f).toInt64.toUInt64).toInt64).toInt32)), .val (.int (p3.toInt32)), .val (.int (((p3.toUInt64 >>> ((32 : Int32) &&& 0x3f).toInt64.toUInt64).toInt64).toInt32)), .unset, .unset, .unset, .unset, .unset, .unset, .unset, .unset, .unset, .unset, .unset] [(.int (p0.toInt32))]))
  refine own_Go.st (fun _ kt => XS.iload X0.here hx rfl (hb hby at_50) rfl kt) ?_
  show own_Go p e below _ (s₁.setTop (mkF m 52 #[.val (.long p0), .second, .val (.long p1), .second, .val (.long p2), .second, .val (.long p3), .second, .val (.int p4), .val (.int (p0.toInt32)), .val (.int (((p0.toUInt64 >>> ((32 : Int32) &&& 0x3f).toInt64.toUInt64).toInt64).toInt32)), .val (.int (p1.toInt32)), .val (.int (((p1.toUInt64 >>> ((32 : Int32) &&& 0x3f).toInt64.toUInt64).toInt64).toInt32)), .val (.int (p2.toInt32)), .val (.int (((p2.toUInt64 >>> ((32 : Int32) &&& 0x3f).toInt64.toUInt64).toInt64).toInt32)), .val (.int (p3.toInt32)), .val (.int (((p3.toUInt64 >>> ((32 : Int32) &&& 0x3f).toInt64.toUInt64).toInt64).toInt32)), .unset, .unset, .unset, .unset, .unset, .unset, .unset, .unset, .unset, .unset, .unset] [(.int (((p0.toUInt64 >>> ((32 : Int32) &&& 0x3f).toInt64.toUInt64).toInt64).toInt32)), (.int (p0.toInt32))]))
  generalize hq9 : (p0.toInt32) = q9
  show own_Go p e below _ (s₁.setTop (mkF m 52 #[.val (.long p0), .second, .val (.long p1), .second, .val (.long p2), .second, .val (.long p3), .second, .val (.int p4), .val (.int q9), .val (.int (((p0.toUInt64 >>> ((32 : Int32) &&& 0x3f).toInt64.toUInt64).toInt64).toInt32)), .val (.int (p1.toInt32)), .val (.int (((p1.toUInt64 >>> ((32 : Int32) &&& 0x3f).toInt64.toUInt64).toInt64).toInt32)), .val (.int (p2.toInt32)), .val (.int (((p2.toUInt64 >>> ((32 : Int32) &&& 0x3f).toInt64.toUInt64).toInt64).toInt32)), .val (.int (p3.toInt32)), .val (.int (((p3.toUInt64 >>> ((32 : Int32) &&& 0x3f).toInt64.toUInt64).toInt64).toInt32)), .unset, .unset, .unset, .unset, .unset, .unset, .unset, .unset, .unset, .unset, .unset] [(.int (((p0.toUInt64 >>> ((32 : Int32) &&& 0x3f).toInt64.toUInt64).toInt64).toInt32)), (.int q9)]))
  generalize hq10 : (((p0.toUInt64 >>> ((32 : Int32) &&& 0x3f).toInt64.toUInt64).toInt64).toInt32) = q10
  show own_Go p e below _ (s₁.setTop (mkF m 52 #[.val (.long p0), .second, .val (.long p1), .second, .val (.long p2), .second, .val (.long p3), .second, .val (.int p4), .val (.int q9), .val (.int q10), .val (.int (p1.toInt32)), .val (.int (((p1.toUInt64 >>> ((32 : Int32) &&& 0x3f).toInt64.toUInt64).toInt64).toInt32)), .val (.int (p2.toInt32)), .val (.int (((p2.toUInt64 >>> ((32 : Int32) &&& 0x3f).toInt64.toUInt64).toInt64).toInt32)), .val (.int (p3.toInt32)), .val (.int (((p3.toUInt64 >>> ((32 : Int32) &&& 0x3f).toInt64.toUInt64).toInt64).toInt32)), .unset, .unset, .unset, .unset, .unset, .unset, .unset, .unset, .unset, .unset, .unset] [(.int q10), (.int q9)]))
  generalize hq11 : (p1.toInt32) = q11
  show own_Go p e below _ (s₁.setTop (mkF m 52 #[.val (.long p0), .second, .val (.long p1), .second, .val (.long p2), .second, .val (.long p3), .second, .val (.int p4), .val (.int q9), .val (.int q10), .val (.int q11), .val (.int (((p1.toUInt64 >>> ((32 : Int32) &&& 0x3f).toInt64.toUInt64).toInt64).toInt32)), .val (.int (p2.toInt32)), .val (.int (((p2.toUInt64 >>> ((32 : Int32) &&& 0x3f).toInt64.toUInt64).toInt64).toInt32)), .val (.int (p3.toInt32)), .val (.int (((p3.toUInt64 >>> ((32 : Int32) &&& 0x3f).toInt64.toUInt64).toInt64).toInt32)), .unset, .unset, .unset, .unset, .unset, .unset, .unset, .unset, .unset, .unset, .unset] [(.int q10), (.int q9)]))
  generalize hq12 : (((p1.toUInt64 >>> ((32 : Int32) &&& 0x3f).toInt64.toUInt64).toInt64).toInt32) = q12
  show own_Go p e below _ (s₁.setTop (mkF m 52 #[.val (.long p0), .second, .val (.long p1), .second, .val (.long p2), .second, .val (.long p3), .second, .val (.int p4), .val (.int q9), .val (.int q10), .val (.int q11), .val (.int q12), .val (.int (p2.toInt32)), .val (.int (((p2.toUInt64 >>> ((32 : Int32) &&& 0x3f).toInt64.toUInt64).toInt64).toInt32)), .val (.int (p3.toInt32)), .val (.int (((p3.toUInt64 >>> ((32 : Int32) &&& 0x3f).toInt64.toUInt64).toInt64).toInt32)), .unset, .unset, .unset, .unset, .unset, .unset, .unset, .unset, .unset, .unset, .unset] [(.int q10), (.int q9)]))
  generalize hq13 : (p2.toInt32) = q13
  show own_Go p e below _ (s₁.setTop (mkF m 52 #[.val (.long p0), .second, .val (.long p1), .second, .val (.long p2), .second, .val (.long p3), .second, .val (.int p4), .val (.int q9), .val (.int q10), .val (.int q11), .val (.int q12), .val (.int q13), .val (.int (((p2.toUInt64 >>> ((32 : Int32) &&& 0x3f).toInt64.toUInt64).toInt64).toInt32)), .val (.int (p3.toInt32)), .val (.int (((p3.toUInt64 >>> ((32 : Int32) &&& 0x3f).toInt64.toUInt64).toInt64).toInt32)), .unset, .unset, .unset, .unset, .unset, .unset, .unset, .unset, .unset, .unset, .unset] [(.int q10), (.int q9)]))
  generalize hq14 : (((p2.toUInt64 >>> ((32 : Int32) &&& 0x3f).toInt64.toUInt64).toInt64).toInt32) = q14
  show own_Go p e below _ (s₁.setTop (mkF m 52 #[.val (.long p0), .second, .val (.long p1), .second, .val (.long p2), .second, .val (.long p3), .second, .val (.int p4), .val (.int q9), .val (.int q10), .val (.int q11), .val (.int q12), .val (.int q13), .val (.int q14), .val (.int (p3.toInt32)), .val (.int (((p3.toUInt64 >>> ((32 : Int32) &&& 0x3f).toInt64.toUInt64).toInt64).toInt32)), .unset, .unset, .unset, .unset, .unset, .unset, .unset, .unset, .unset, .unset, .unset] [(.int q10), (.int q9)]))
  generalize hq15 : (p3.toInt32) = q15
  show own_Go p e below _ (s₁.setTop (mkF m 52 #[.val (.long p0), .second, .val (.long p1), .second, .val (.long p2), .second, .val (.long p3), .second, .val (.int p4), .val (.int q9), .val (.int q10), .val (.int q11), .val (.int q12), .val (.int q13), .val (.int q14), .val (.int q15), .val (.int (((p3.toUInt64 >>> ((32 : Int32) &&& 0x3f).toInt64.toUInt64).toInt64).toInt32)), .unset, .unset, .unset, .unset, .unset, .unset, .unset, .unset, .unset, .unset, .unset] [(.int q10), (.int q9)]))
  generalize hq16 : (((p3.toUInt64 >>> ((32 : Int32) &&& 0x3f).toInt64.toUInt64).toInt64).toInt32) = q16
  show own_Go p e below _ (s₁.setTop (mkF m 52 #[.val (.long p0), .second, .val (.long p1), .second, .val (.long p2), .second, .val (.long p3), .second, .val (.int p4), .val (.int q9), .val (.int q10), .val (.int q11), .val (.int q12), .val (.int q13), .val (.int q14), .val (.int q15), .val (.int q16), .unset, .unset, .unset, .unset, .unset, .unset, .unset, .unset, .unset, .unset, .unset] [(.int q10), (.int q9)]))
  obtain ⟨_, _, ⟨T1, L1, k1, n1⟩, -, X1, ⟨Lc1, hQ1, l1, y1, z1⟩, st1⟩ := Jvm.LawKit.callS X0 hx (y := (⟨"java/lang/Math", "min", "(II)I"⟩ : MethodName)) hown (mvT hZ (hw _ (List.mem_of_getElem? (i := 0) rfl))) (mvT hZ (hw _ (List.mem_of_getElem? (i := 1) rfl))) (mvT hZ (hw _ (List.mem_of_getElem? (i := 2) rfl))) (mvT hZ (hw _ (List.mem_of_getElem? (i := 3) rfl))) (by decide) (backOf (W := 0) (own_min l Z a0 hw [] q9 q10 h0 n0 Z0 ) hZ (hw _ (List.mem_of_getElem? (i := 3) rfl)) (hw _ (List.mem_of_getElem? (i := 2) rfl)) (by decide) (by decide)) (g := (mkF m 52 #[.val (.long p0), .second, .val (.long p1), .second, .val (.long p2), .second, .val (.long p3), .second, .val (.int p4), .val (.int q9), .val (.int q10), .val (.int q11), .val (.int q12), .val (.int q13), .val (.int q14), .val (.int q15), .val (.int q16), .unset, .unset, .unset, .unset, .unset, .unset, .unset, .unset, .unset, .unset, .unset] [(.int q10), (.int q9)])) rfl (by rw [hml]; rfl) (argsL := [(.int q9), (.int q10)]) (rest := []) (lenOf own_pd7 rfl) rfl (by show 2 * 0 + _ ≤ _; exact Nat.le_of_eq rfl) (hb hby at_52) (fun _ _ => ⟨rfl, e0, (by decide : 0 + 0 ≤ _), (by decide : 0 + 0 ≤ _)⟩)
  dsimp only [Pt.U, Pt.locs, Pt.cells, Pt.slots] at X1 l1 y1 z1 st1 hQ1
  subst l1 y1 z1
  obtain ⟨rfl, N1q, hh1⟩ := hQ1
  have N1 := Fr.app N0 N1q
  refine own_Go.st (fun _ kt => st1 _ kt) ?_
  show own_Go p e below _ (T1.setTop (mkF m 55 #[.val (.long p0), .second, .val (.long p1), .second, .val (.long p2), .second, .val (.long p3), .second, .val (.int p4), .val (.int q9), .val (.int q10), .val (.int q11), .val (.int q12), .val (.int q13), .val (.int q14), .val (.int q15), .val (.int q16), .unset, .unset, .unset, .unset, .unset, .unset, .unset, .unset, .unset, .unset, .unset] [(.int (if q10 < q9 then q10 else q9))]))
  refine own_Go.st (fun _ kt => XS.istore X1.here hx rfl (hb hby at_55) rfl (l' := #[.val (.long p0), .second, .val (.long p1), .second, .val (.long p2), .second, .val (.long p3), .second, .val (.int p4), .val (.int q9), .val (.int q10), .val (.int q11), .val (.int q12), .val (.int q13), .val (.int q14), .val (.int q15), .val (.int q16), .val (.int (if q10 < q9 then q10 else q9)), .unset, .unset, .unset, .unset, .unset, .unset, .unset, .unset, .unset, .unset]) rfl kt) ?_
  show own_Go p e below _ (T1.setTop (mkF m 57 #[.val (.long p0), .second, .val (.long p1), .second, .val (.long p2), .second, .val (.long p3), .second, .val (.int p4), .val (.int q9), .val (.int q10), .val (.int q11), .val (.int q12), .val (.int q13), .val (.int q14), .val (.int q15), .val (.int q16), .val (.int (if q10 < q9 then q10 else q9)), .unset, .unset, .unset, .unset, .unset, .unset, .unset, .unset, .unset, .unset] []))
  refine own_Go.st (fun _ kt => XS.iload X1.here hx rfl (hb hby at_57) rfl kt) ?_
  show own_Go p e below _ (T1.setTop (mkF m 59 #[.val (.long p0), .second, .val (.long p1), .second, .val (.long p2), .second, .val (.long p3), .second, .val (.int p4), .val (.int q9), .val (.int q10), .val (.int q11), .val (.int q12), .val (.int q13), .val (.int q14), .val (.int q15), .val (.int q16), .val (.int (if q10 < q9 then q10 else q9)), .unset, .unset, .unset, .unset, .unset, .unset, .unset, .unset, .unset, .unset] [(.int q9)]))
  refine own_Go.st (fun _ kt => XS.iload X1.here hx rfl (hb hby at_59) rfl kt) ?_
  show own_Go p e below _ (T1.setTop (mkF m 61 #[.val (.long p0), .second, .val (.long p1), .second, .val (.long p2), .second, .val (.long p3), .second, .val (.int p4), .val (.int q9), .val (.int q10), .val (.int q11), .val (.int q12), .val (.int q13), .val (.int q14), .val (.int q15), .val (.int q16), .val (.int (if q10 < q9 then q10 else q9)), .unset, .unset, .unset, .unset, .unset, .unset, .unset, .unset, .unset, .unset] [(.int q10), (.int q9)]))
  obtain ⟨_, _, ⟨T2, L2, k2, n2⟩, -, X2, ⟨Lc2, hQ2, l2, y2, z2⟩, st2⟩ := Jvm.LawKit.callS X1 hx (y := (⟨"java/lang/Math", "max", "(II)I"⟩ : MethodName)) hown (mvT hZ (hw _ (List.mem_of_getElem? (i := 4) rfl))) (mvT hZ (hw _ (List.mem_of_getElem? (i := 5) rfl))) (mvT hZ (hw _ (List.mem_of_getElem? (i := 2) rfl))) (mvT hZ (hw _ (List.mem_of_getElem? (i := 6) rfl))) (by decide) (backOf (W := 0) (own_max l Z a0 hw [] q9 q10 h0 n0 Z0 ) hZ (hw _ (List.mem_of_getElem? (i := 6) rfl)) (hw _ (List.mem_of_getElem? (i := 2) rfl)) (by decide) (by decide)) (g := (mkF m 61 #[.val (.long p0), .second, .val (.long p1), .second, .val (.long p2), .second, .val (.long p3), .second, .val (.int p4), .val (.int q9), .val (.int q10), .val (.int q11), .val (.int q12), .val (.int q13), .val (.int q14), .val (.int q15), .val (.int q16), .val (.int (if q10 < q9 then q10 else q9)), .unset, .unset, .unset, .unset, .unset, .unset, .unset, .unset, .unset, .unset] [(.int q10), (.int q9)])) rfl (by rw [hml]; rfl) (argsL := [(.int q9), (.int q10)]) (rest := []) (lenOf own_pd7 rfl) rfl (by show 2 * 0 + _ ≤ _; exact Nat.le_of_eq rfl) (hb hby at_61) (fun _ _ => ⟨rfl, hh1, (by decide : 0 + 0 ≤ _), (by decide : 0 + 0 ≤ _)⟩)
  dsimp only [Pt.U, Pt.locs, Pt.cells, Pt.slots] at X2 l2 y2 z2 st2 hQ2
  subst l2 y2 z2
  obtain ⟨rfl, N2q, hh2⟩ := hQ2
  have N2 := Fr.app N1 N2q
  refine own_Go.st (fun _ kt => st2 _ kt) ?_
  show own_Go p e below _ (T2.setTop (mkF m 64 #[.val (.long p0), .second, .val (.long p1), .second, .val (.long p2), .second, .val (.long p3), .second, .val (.int p4), .val (.int q9), .val (.int q10), .val (.int q11), .val (.int q12), .val (.int q13), .val (.int q14), .val (.int q15), .val (.int q16), .val (.int (if q10 < q9 then q10 else q9)), .unset, .unset, .unset, .unset, .unset, .unset, .unset, .unset, .unset, .unset] [(.int (if q9 < q10 then q10 else q9))]))
  refine own_Go.st (fun _ kt => XS.istore X2.here hx rfl (hb hby at_64) rfl (l' := #[.val (.long p0), .second, .val (.long p1), .second, .val (.long p2), .second, .val (.long p3), .second, .val (.int p4), .val (.int q9), .val (.int q10), .val (.int q11), .val (.int q12), .val (.int q13), .val (.int q14), .val (.int q15), .val (.int q16), .val (.int (if q10 < q9 then q10 else q9)), .val (.int (if q9 < q10 then q10 else q9)), .unset, .unset, .unset, .unset, .unset, .unset, .unset, .unset, .unset]) rfl kt) ?_
  show own_Go p e below _ (T2.setTop (mkF m 66 #[.val (.long p0), .second, .val (.long p1), .second, .val (.long p2), .second, .val (.long p3), .second, .val (.int p4), .val (.int q9), .val (.int q10), .val (.int q11), .val (.int q12), .val (.int q13), .val (.int q14), .val (.int q15), .val (.int q16), .val (.int (if q10 < q9 then q10 else q9)), .val (.int (if q9 < q10 then q10 else q9)), .unset, .unset, .unset, .unset, .unset, .unset, .unset, .unset, .unset] []))
  have h_n1 := own_mm q9 q10
  generalize (if q10 < q9 then q10 else q9) = n1 at h_n1 ⊢
  generalize (if q9 < q10 then q10 else q9) = n3 at h_n1 ⊢
  show own_Go p e below _ (T2.setTop (mkF m 66 #[.val (.long p0), .second, .val (.long p1), .second, .val (.long p2), .second, .val (.long p3), .second, .val (.int p4), .val (.int q9), .val (.int q10), .val (.int q11), .val (.int q12), .val (.int q13), .val (.int q14), .val (.int q15), .val (.int q16), .val (.int n1), .val (.int n3), .unset, .unset, .unset, .unset, .unset, .unset, .unset, .unset, .unset] []))
  rw [← own_lt64] at h_n1
  refine own_Go.st (fun _ kt => XS.iload X2.here hx rfl (hb hby at_66) rfl kt) ?_
  show own_Go p e below _ (T2.setTop (mkF m 68 #[.val (.long p0), .second, .val (.long p1), .second, .val (.long p2), .second, .val (.long p3), .second, .val (.int p4), .val (.int q9), .val (.int q10), .val (.int q11), .val (.int q12), .val (.int q13), .val (.int q14), .val (.int q15), .val (.int q16), .val (.int n1), .val (.int n3), .unset, .unset, .unset, .unset, .unset, .unset, .unset, .unset, .unset] [(.int q11)]))
  refine own_Go.st (fun _ kt => XS.iload X2.here hx rfl (hb hby at_68) rfl kt) ?_
  show own_Go p e below _ (T2.setTop (mkF m 70 #[.val (.long p0), .second, .val (.long p1), .second, .val (.long p2), .second, .val (.long p3), .second, .val (.int p4), .val (.int q9), .val (.int q10), .val (.int q11), .val (.int q12), .val (.int q13), .val (.int q14), .val (.int q15), .val (.int q16), .val (.int n1), .val (.int n3), .unset, .unset, .unset, .unset, .unset, .unset, .unset, .unset, .unset] [(.int q12), (.int q11)]))
  obtain ⟨_, _, ⟨T3, L3, k3, n3⟩, -, X3, ⟨Lc3, hQ3, l3, y3, z3⟩, st3⟩ := Jvm.LawKit.callS X2 hx (y := (⟨"java/lang/Math", "min", "(II)I"⟩ : MethodName)) hown (mvT hZ (hw _ (List.mem_of_getElem? (i := 0) rfl))) (mvT hZ (hw _ (List.mem_of_getElem? (i := 1) rfl))) (mvT hZ (hw _ (List.mem_of_getElem? (i := 2) rfl))) (mvT hZ (hw _ (List.mem_of_getElem? (i := 3) rfl))) (by decide) (backOf (W := 0) (own_min l Z a0 hw [] q11 q12 h0 n0 Z0 ) hZ (hw _ (List.mem_of_getElem? (i := 3) rfl)) (hw _ (List.mem_of_getElem? (i := 2) rfl)) (by decide) (by decide)) (g := (mkF m 70 #[.val (.long p0), .second, .val (.long p1), .second, .val (.long p2), .second, .val (.long p3), .second, .val (.int p4), .val (.int q9), .val (.int q10), .val (.int q11), .val (.int q12), .val (.int q13), .val (.int q14), .val (.int q15), .val (.int q16), .val (.int n1), .val (.int n3), .unset, .unset, .unset, .unset, .unset, .unset, .unset, .unset, .unset] [(.int q12), (.int q11)])) rfl (by rw [hml]; rfl) (argsL := [(.int q11), (.int q12)]) (rest := []) (lenOf own_pd7 rfl) rfl (by show 2 * 0 + _ ≤ _; exact Nat.le_of_eq rfl) (hb hby at_70) (fun _ _ => ⟨rfl, hh2, (by decide : 0 + 0 ≤ _), (by decide : 0 + 0 ≤ _)⟩)
  dsimp only [Pt.U, Pt.locs, Pt.cells, Pt.slots] at X3 l3 y3 z3 st3 hQ3
  subst l3 y3 z3
  obtain ⟨rfl, N3q, hh3⟩ := hQ3
  have N3 := Fr.app N2 N3q
  refine own_Go.st (fun _ kt => st3 _ kt) ?_
  show own_Go p e below _ (T3.setTop (mkF m 73 #[.val (.long p0), .second, .val (.long p1), .second, .val (.long p2), .second, .val (.long p3), .second, .val (.int p4), .val (.int q9), .val (.int q10), .val (.int q11), .val (.int q12), .val (.int q13), .val (.int q14), .val (.int q15), .val (.int q16), .val (.int n1), .val (.int n3), .unset, .unset, .unset, .unset, .unset, .unset, .unset, .unset, .unset] [(.int (if q12 < q11 then q12 else q11))]))
  refine own_Go.st (fun _ kt => XS.istore X3.here hx rfl (hb hby at_73) rfl (l' := #[.val (.long p0), .second, .val (.long p1), .second, .val (.long p2), .second, .val (.long p3), .second, .val (.int p4), .val (.int q9), .val (.int q10), .val (.int q11), .val (.int q12), .val (.int q13), .val (.int q14), .val (.int q15), .val (.int q16), .val (.int n1), .val (.int n3), .val (.int (if q12 < q11 then q12 else q11)), .unset, .unset, .unset, .unset, .unset, .unset, .unset, .unset]) rfl kt) ?_
  show own_Go p e below _ (T3.setTop (mkF m 75 #[.val (.long p0), .second, .val (.long p1), .second, .val (.long p2), .second, .val (.long p3), .second, .val (.int p4), .val (.int q9), .val (.int q10), .val (.int q11), .val (.int q12), .val (.int q13), .val (.int q14), .val (.int q15), .val (.int q16), .val (.int n1), .val (.int n3), .val (.int (if q12 < q11 then q12 else q11)), .unset, .unset, .unset, .unset, .unset, .unset, .unset, .unset] []))
  refine own_Go.st (fun _ kt => XS.iload X3.here hx rfl (hb hby at_75) rfl kt) ?_
  show own_Go p e below _ (T3.setTop (mkF m 77 #[.val (.long p0), .second, .val (.long p1), .second, .val (.long p2), .second, .val (.long p3), .second, .val (.int p4), .val (.int q9), .val (.int q10), .val (.int q11), .val (.int q12), .val (.int q13), .val (.int q14), .val (.int q15), .val (.int q16), .val (.int n1), .val (.int n3), .val (.int (if q12 < q11 then q12 else q11)), .unset, .unset, .unset, .unset, .unset, .unset, .unset, .unset] [(.int q11)]))
  refine own_Go.st (fun _ kt => XS.iload X3.here hx rfl (hb hby at_77) rfl kt) ?_
  show own_Go p e below _ (T3.setTop (mkF m 79 #[.val (.long p0), .second, .val (.long p1), .second, .val (.long p2), .second, .val (.long p3), .second, .val (.int p4), .val (.int q9), .val (.int q10), .val (.int q11), .val (.int q12), .val (.int q13), .val (.int q14), .val (.int q15), .val (.int q16), .val (.int n1), .val (.int n3), .val (.int (if q12 < q11 then q12 else q11)), .unset, .unset, .unset, .unset, .unset, .unset, .unset, .unset] [(.int q12), (.int q11)]))
  obtain ⟨_, _, ⟨T4, L4, k4, n4⟩, -, X4, ⟨Lc4, hQ4, l4, y4, z4⟩, st4⟩ := Jvm.LawKit.callS X3 hx (y := (⟨"java/lang/Math", "max", "(II)I"⟩ : MethodName)) hown (mvT hZ (hw _ (List.mem_of_getElem? (i := 4) rfl))) (mvT hZ (hw _ (List.mem_of_getElem? (i := 5) rfl))) (mvT hZ (hw _ (List.mem_of_getElem? (i := 2) rfl))) (mvT hZ (hw _ (List.mem_of_getElem? (i := 6) rfl))) (by decide) (backOf (W := 0) (own_max l Z a0 hw [] q11 q12 h0 n0 Z0 ) hZ (hw _ (List.mem_of_getElem? (i := 6) rfl)) (hw _ (List.mem_of_getElem? (i := 2) rfl)) (by decide) (by decide)) (g := (mkF m 79 #[.val (.long p0), .second, .val (.long p1), .second, .val (.long p2), .second, .val (.long p3), .second, .val (.int p4), .val (.int q9), .val (.int q10), .val (.int q11), .val (.int q12), .val (.int q13), .val (.int q14), .val (.int q15), .val (.int q16), .val (.int n1), .val (.int n3), .val (.int (if q12 < q11 then q12 else q11)), .unset, .unset, .unset, .unset, .unset, .unset, .unset, .unset] [(.int q12), (.int q11)])) rfl (by rw [hml]; rfl) (argsL := [(.int q11), (.int q12)]) (rest := []) (lenOf own_pd7 rfl) rfl (by show 2 * 0 + _ ≤ _; exact Nat.le_of_eq rfl) (hb hby at_79) (fun _ _ => ⟨rfl, hh3, (by decide : 0 + 0 ≤ _), (by decide : 0 + 0 ≤ _)⟩)
  dsimp only [Pt.U, Pt.locs, Pt.cells, Pt.slots] at X4 l4 y4 z4 st4 hQ4
  subst l4 y4 z4
  obtain ⟨rfl, N4q, hh4⟩ := hQ4
  have N4 := Fr.app N3 N4q
  refine own_Go.st (fun _ kt => st4 _ kt) ?_
  show own_Go p e below _ (T4.setTop (mkF m 82 #[.val (.long p0), .second, .val (.long p1), .second, .val (.long p2), .second, .val (.long p3), .second, .val (.int p4), .val (.int q9), .val (.int q10), .val (.int q11), .val (.int q12), .val (.int q13), .val (.int q14), .val (.int q15), .val (.int q16), .val (.int n1), .val (.int n3), .val (.int (if q12 < q11 then q12 else q11)), .unset, .unset, .unset, .unset, .unset, .unset, .unset, .unset] [(.int (if q11 < q12 then q12 else q11))]))
  refine own_Go.st (fun _ kt => XS.istore X4.here hx rfl (hb hby at_82) rfl (l' := #[.val (.long p0), .second, .val (.long p1), .second, .val (.long p2), .second, .val (.long p3), .second, .val (.int p4), .val (.int q9), .val (.int q10), .val (.int q11), .val (.int q12), .val (.int q13), .val (.int q14), .val (.int q15), .val (.int q16), .val (.int n1), .val (.int n3), .val (.int (if q12 < q11 then q12 else q11)), .val (.int (if q11 < q12 then q12 else q11)), .unset, .unset, .unset, .unset, .unset, .unset, .unset]) rfl kt) ?_
  show own_Go p e below _ (T4.setTop (mkF m 84 #[.val (.long p0), .second, .val (.long p1), .second, .val (.long p2), .second, .val (.long p3), .second, .val (.int p4), .val (.int q9), .val (.int q10), .val (.int q11), .val (.int q12), .val (.int q13), .val (.int q14), .val (.int q15), .val (.int q16), .val (.int n1), .val (.int n3), .val (.int (if q12 < q11 then q12 else q11)), .val (.int (if q11 < q12 then q12 else q11)), .unset, .unset, .unset, .unset, .unset, .unset, .unset] []))
  have h_n2 := own_mm q11 q12
  generalize (if q12 < q11 then q12 else q11) = n2 at h_n2 ⊢
  generalize (if q11 < q12 then q12 else q11) = n4 at h_n2 ⊢
  show own_Go p e below _ (T4.setTop (mkF m 84 #[.val (.long p0), .second, .val (.long p1), .second, .val (.long p2), .second, .val (.long p3), .second, .val (.int p4), .val (.int q9), .val (.int q10), .val (.int q11), .val (.int q12), .val (.int q13), .val (.int q14), .val (.int q15), .val (.int q16), .val (.int n1), .val (.int n3), .val (.int n2), .val (.int n4), .unset, .unset, .unset, .unset, .unset, .unset, .unset] []))
  rw [← own_lt64] at h_n2
  refine own_Go.st (fun _ kt => XS.iload X4.here hx rfl (hb hby at_84) rfl kt) ?_
  show own_Go p e below _ (T4.setTop (mkF m 86 #[.val (.long p0), .second, .val (.long p1), .second, .val (.long p2), .second, .val (.long p3), .second, .val (.int p4), .val (.int q9), .val (.int q10), .val (.int q11), .val (.int q12), .val (.int q13), .val (.int q14), .val (.int q15), .val (.int q16), .val (.int n1), .val (.int n3), .val (.int n2), .val (.int n4), .unset, .unset, .unset, .unset, .unset, .unset, .unset] [(.int q13)]))
  refine own_Go.st (fun _ kt => XS.iload X4.here hx rfl (hb hby at_86) rfl kt) ?_
  show own_Go p e below _ (T4.setTop (mkF m 88 #[.val (.long p0), .second, .val (.long p1), .second, .val (.long p2), .second, .val (.long p3), .second, .val (.int p4), .val (.int q9), .val (.int q10), .val (.int q11), .val (.int q12), .val (.int q13), .val (.int q14), .val (.int q15), .val (.int q16), .val (.int n1), .val (.int n3), .val (.int n2), .val (.int n4), .unset, .unset, .unset, .unset, .unset, .unset, .unset] [(.int q14), (.int q13)]))
  obtain ⟨_, _, ⟨T5, L5, k5, n5⟩, -, X5, ⟨Lc5, hQ5, l5, y5, z5⟩, st5⟩ := Jvm.LawKit.callS X4 hx (y := (⟨"java/lang/Math", "min", "(II)I"⟩ : MethodName)) hown (mvT hZ (hw _ (List.mem_of_getElem? (i := 0) rfl))) (mvT hZ (hw _ (List.mem_of_getElem? (i := 1) rfl))) (mvT hZ (hw _ (List.mem_of_getElem? (i := 2) rfl))) (mvT hZ (hw _ (List.mem_of_getElem? (i := 3) rfl))) (by decide) (backOf (W := 0) (own_min l Z a0 hw [] q13 q14 h0 n0 Z0 ) hZ (hw _ (List.mem_of_getElem? (i := 3) rfl)) (hw _ (List.mem_of_getElem? (i := 2) rfl)) (by decide) (by decide)) (g := (mkF m 88 #[.val (.long p0), .second, .val (.long p1), .second, .val (.long p2), .second, .val (.long p3), .second, .val (.int p4), .val (.int q9), .val (.int q10), .val (.int q11), .val (.int q12), .val (.int q13), .val (.int q14), .val (.int q15), .val (.int q16), .val (.int n1), .val (.int n3), .val (.int n2), .val (.int n4), .unset, .unset, .unset, .unset, .unset, .unset, .unset] [(.int q14), (.int q13)])) rfl (by rw [hml]; rfl) (argsL := [(.int q13), (.int q14)]) (rest := []) (lenOf own_pd7 rfl) rfl (by show 2 * 0 + _ ≤ _; exact Nat.le_of_eq rfl) (hb hby at_88) (fun _ _ => ⟨rfl, hh4, (by decide : 0 + 0 ≤ _), (by decide : 0 + 0 ≤ _)⟩)
  dsimp only [Pt.U, Pt.locs, Pt.cells, Pt.slots] at X5 l5 y5 z5 st5 hQ5
  subst l5 y5 z5
  obtain ⟨rfl, N5q, hh5⟩ := hQ5
  have N5 := Fr.app N4 N5q
  refine own_Go.st (fun _ kt => st5 _ kt) ?_
  show own_Go p e below _ (T5.setTop (mkF m 91 #[.val (.long p0), .second, .val (.long p1), .second, .val (.long p2), .second, .val (.long p3), .second, .val (.int p4), .val (.int q9), .val (.int q10), .val (.int q11), .val (.int q12), .val (.int q13), .val (.int q14), .val (.int q15), .val (.int q16), .val (.int n1), .val (.int n3), .val (.int n2), .val (.int n4), .unset, .unset, .unset, .unset, .unset, .unset, .unset] [(.int (if q14 < q13 then q14 else q13))]))
  refine own_Go.st (fun _ kt => XS.istore X5.here hx rfl (hb hby at_91) rfl (l' := #[.val (.long p0), .second, .val (.long p1), .second, .val (.long p2), .second, .val (.long p3), .second, .val (.int p4), .val (.int q9), .val (.int q10), .val (.int q11), .val (.int q12), .val (.int q13), .val (.int q14), .val (.int q15), .val (.int q16), .val (.int n1), .val (.int n3), .val (.int n2), .val (.int n4), .val (.int (if q14 < q13 then q14 else q13)), .unset, .unset, .unset, .unset, .unset, .unset]) rfl kt) ?_
  show own_Go p e below _ (T5.setTop (mkF m 93 #[.val (.long p0), .second, .val (.long p1), .second, .val (.long p2), .second, .val (.long p3), .second, .val (.int p4), .val (.int q9), .val (.int q10), .val (.int q11), .val (.int q12), .val (.int q13), .val (.int q14), .val (.int q15), .val (.int q16), .val (.int n1), .val (.int n3), .val (.int n2), .val (.int n4), .val (.int (if q14 < q13 then q14 else q13)), .unset, .unset, .unset, .unset, .unset, .unset] []))
  refine own_Go.st (fun _ kt => XS.iload X5.here hx rfl (hb hby at_93) rfl kt) ?_
  show own_Go p e below _ (T5.setTop (mkF m 95 #[.val (.long p0), .second, .val (.long p1), .second, .val (.long p2), .second, .val (.long p3), .second, .val (.int p4), .val (.int q9), .val (.int q10), .val (.int q11), .val (.int q12), .val (.int q13), .val (.int q14), .val (.int q15), .val (.int q16), .val (.int n1), .val (.int n3), .val (.int n2), .val (.int n4), .val (.int (if q14 < q13 then q14 else q13)), .unset, .unset, .unset, .unset, .unset, .unset] [(.int q13)]))
  refine own_Go.st (fun _ kt => XS.iload X5.here hx rfl (hb hby at_95) rfl kt) ?_
  show own_Go p e below _ (T5.setTop (mkF m 97 #[.val (.long p0), .second, .val (.long p1), .second, .val (.long p2), .second, .val (.long p3), .second, .val (.int p4), .val (.int q9), .val (.int q10), .val (.int q11), .val (.int q12), .val (.int q13), .val (.int q14), .val (.int q15), .val (.int q16), .val (.int n1), .val (.int n3), .val (.int n2), .val (.int n4), .val (.int (if q14 < q13 then q14 else q13)), .unset, .unset, .unset, .unset, .unset, .unset] [(.int q14), (.int q13)]))
  obtain ⟨_, _, ⟨T6, L6, k6, n6⟩, -, X6, ⟨Lc6, hQ6, l6, y6, z6⟩, st6⟩ := Jvm.LawKit.callS X5 hx (y := (⟨"java/lang/Math", "max", "(II)I"⟩ : MethodName)) hown (mvT hZ (hw _ (List.mem_of_getElem? (i := 4) rfl))) (mvT hZ (hw _ (List.mem_of_getElem? (i := 5) rfl))) (mvT hZ (hw _ (List.mem_of_getElem? (i := 2) rfl))) (mvT hZ (hw _ (List.mem_of_getElem? (i := 6) rfl))) (by decide) (backOf (W := 0) (own_max l Z a0 hw [] q13 q14 h0 n0 Z0 ) hZ (hw _ (List.mem_of_getElem? (i := 6) rfl)) (hw _ (List.mem_of_getElem? (i := 2) rfl)) (by decide) (by decide)) (g := (mkF m 97 #[.val (.long p0), .second, .val (.long p1), .second, .val (.long p2), .second, .val (.long p3), .second, .val (.int p4), .val (.int q9), .val (.int q10), .val (.int q11), .val (.int q12), .val (.int q13), .val (.int q14), .val (.int q15), .val (.int q16), .val (.int n1), .val (.int n3), .val (.int n2), .val (.int n4), .val (.int (if q14 < q13 then q14 else q13)), .unset, .unset, .unset, .unset, .unset, .unset] [(.int q14), (.int q13)])) rfl (by rw [hml]; rfl) (argsL := [(.int q13), (.int q14)]) (rest := []) (lenOf own_pd7 rfl) rfl (by show 2 * 0 + _ ≤ _; exact Nat.le_of_eq rfl) (hb hby at_97) (fun _ _ => ⟨rfl, hh5, (by decide : 0 + 0 ≤ _), (by decide : 0 + 0 ≤ _)⟩)
  dsimp only [Pt.U, Pt.locs, Pt.cells, Pt.slots] at X6 l6 y6 z6 st6 hQ6
  subst l6 y6 z6
  obtain ⟨rfl, N6q, hh6⟩ := hQ6
  have N6 := Fr.app N5 N6q
  refine own_Go.st (fun _ kt => st6 _ kt) ?_
  show own_Go p e below _ (T6.setTop (mkF m 100 #[.val (.long p0), .second, .val (.long p1), .second, .val (.long p2), .second, .val (.long p3), .second, .val (.int p4), .val (.int q9), .val (.int q10), .val (.int q11), .val (.int q12), .val (.int q13), .val (.int q14), .val (.int q15), .val (.int q16), .val (.int n1), .val (.int n3), .val (.int n2), .val (.int n4), .val (.int (if q14 < q13 then q14 else q13)), .unset, .unset, .unset, .unset, .unset, .unset] [(.int (if q13 < q14 then q14 else q13))]))
  refine own_Go.st (fun _ kt => XS.istore X6.here hx rfl (hb hby at_100) rfl (l' := #[.val (.long p0), .second, .val (.long p1), .second, .val (.long p2), .second, .val (.long p3), .second, .val (.int p4), .val (.int q9), .val (.int q10), .val (.int q11), .val (.int q12), .val (.int q13), .val (.int q14), .val (.int q15), .val (.int q16), .val (.int n1), .val (.int n3), .val (.int n2), .val (.int n4), .val (.int (if q14 < q13 then q14 else q13)), .val (.int (if q13 < q14 then q14 else q13)), .unset, .unset, .unset, .unset, .unset]) rfl kt) ?_
  show own_Go p e below _ (T6.setTop (mkF m 102 #[.val (.long p0), .second, .val (.long p1), .second, .val (.long p2), .second, .val (.long p3), .second, .val (.int p4), .val (.int q9), .val (.int q10), .val (.int q11), .val (.int q12), .val (.int q13), .val (.int q14), .val (.int q15), .val (.int q16), .val (.int n1), .val (.int n3), .val (.int n2), .val (.int n4), .val (.int (if q14 < q13 then q14 else q13)), .val (.int (if q13 < q14 then q14 else q13)), .unset, .unset, .unset, .unset, .unset] []))
  have h_m1 := own_mm q13 q14
  generalize (if q14 < q13 then q14 else q13) = m1 at h_m1 ⊢
  generalize (if q13 < q14 then q14 else q13) = m3 at h_m1 ⊢
  show own_Go p e below _ (T6.setTop (mkF m 102 #[.val (.long p0), .second, .val (.long p1), .second, .val (.long p2), .second, .val (.long p3), .second, .val (.int p4), .val (.int q9), .val (.int q10), .val (.int q11), .val (.int q12), .val (.int q13), .val (.int q14), .val (.int q15), .val (.int q16), .val (.int n1), .val (.int n3), .val (.int n2), .val (.int n4), .val (.int m1), .val (.int m3), .unset, .unset, .unset, .unset, .unset] []))
  rw [← own_lt64] at h_m1
  refine own_Go.st (fun _ kt => XS.iload X6.here hx rfl (hb hby at_102) rfl kt) ?_
  show own_Go p e below _ (T6.setTop (mkF m 104 #[.val (.long p0), .second, .val (.long p1), .second, .val (.long p2), .second, .val (.long p3), .second, .val (.int p4), .val (.int q9), .val (.int q10), .val (.int q11), .val (.int q12), .val (.int q13), .val (.int q14), .val (.int q15), .val (.int q16), .val (.int n1), .val (.int n3), .val (.int n2), .val (.int n4), .val (.int m1), .val (.int m3), .unset, .unset, .unset, .unset, .unset] [(.int q15)]))
  refine own_Go.st (fun _ kt => XS.iload X6.here hx rfl (hb hby at_104) rfl kt) ?_
  show own_Go p e below _ (T6.setTop (mkF m 106 #[.val (.long p0), .second, .val (.long p1), .second, .val (.long p2), .second, .val (.long p3), .second, .val (.int p4), .val (.int q9), .val (.int q10), .val (.int q11), .val (.int q12), .val (.int q13), .val (.int q14), .val (.int q15), .val (.int q16), .val (.int n1), .val (.int n3), .val (.int n2), .val (.int n4), .val (.int m1), .val (.int m3), .unset, .unset, .unset, .unset, .unset] [(.int q16), (.int q15)]))
  obtain ⟨_, _, ⟨T7, L7, k7, n7⟩, -, X7, ⟨Lc7, hQ7, l7, y7, z7⟩, st7⟩ := Jvm.LawKit.callS X6 hx (y := (⟨"java/lang/Math", "min", "(II)I"⟩ : MethodName)) hown (mvT hZ (hw _ (List.mem_of_getElem? (i := 0) rfl))) (mvT hZ (hw _ (List.mem_of_getElem? (i := 1) rfl))) (mvT hZ (hw _ (List.mem_of_getElem? (i := 2) rfl))) (mvT hZ (hw _ (List.mem_of_getElem? (i := 3) rfl))) (by decide) (backOf (W := 0) (own_min l Z a0 hw [] q15 q16 h0 n0 Z0 ) hZ (hw _ (List.mem_of_getElem? (i := 3) rfl)) (hw _ (List.mem_of_getElem? (i := 2) rfl)) (by decide) (by decide)) (g := (mkF m 106 #[.val (.long p0), .second, .val (.long p1), .second, .val (.long p2), .second, .val (.long p3), .second, .val (.int p4), .val (.int q9), .val (.int q10), .val (.int q11), .val (.int q12), .val (.int q13), .val (.int q14), .val (.int q15), .val (.int q16), .val (.int n1), .val (.int n3), .val (.int n2), .val (.int n4), .val (.int m1), .val (.int m3), .unset, .unset, .unset, .unset, .unset] [(.int q16), (.int q15)])) rfl (by rw [hml]; rfl) (argsL := [(.int q15), (.int q16)]) (rest := []) (lenOf own_pd7 rfl) rfl (by show 2 * 0 + _ ≤ _; exact Nat.le_of_eq rfl) (hb hby at_106) (fun _ _ => ⟨rfl, hh6, (by decide : 0 + 0 ≤ _), (by decide : 0 + 0 ≤ _)⟩)
  dsimp only [Pt.U, Pt.locs, Pt.cells, Pt.slots] at X7 l7 y7 z7 st7 hQ7
  subst l7 y7 z7
  obtain ⟨rfl, N7q, hh7⟩ := hQ7
  have N7 := Fr.app N6 N7q
  refine own_Go.st (fun _ kt => st7 _ kt) ?_
  show own_Go p e below _ (T7.setTop (mkF m 109 #[.val (.long p0), .second, .val (.long p1), .second, .val (.long p2), .second, .val (.long p3), .second, .val (.int p4), .val (.int q9), .val (.int q10), .val (.int q11), .val (.int q12), .val (.int q13), .val (.int q14), .val (.int q15), .val (.int q16), .val (.int n1), .val (.int n3), .val (.int n2), .val (.int n4), .val (.int m1), .val (.int m3), .unset, .unset, .unset, .unset, .unset] [(.int (if q16 < q15 then q16 else q15))]))
  refine own_Go.st (fun _ kt => XS.istore X7.here hx rfl (hb hby at_109) rfl (l' := #[.val (.long p0), .second, .val (.long p1), .second, .val (.long p2), .second, .val (.long p3), .second, .val (.int p4), .val (.int q9), .val (.int q10), .val (.int q11), .val (.int q12), .val (.int q13), .val (.int q14), .val (.int q15), .val (.int q16), .val (.int n1), .val (.int n3), .val (.int n2), .val (.int n4), .val (.int m1), .val (.int m3), .val (.int (if q16 < q15 then q16 else q15)), .unset, .unset, .unset, .unset]) rfl kt) ?_
  show own_Go p e below _ (T7.setTop (mkF m 111 #[.val (.long p0), .second, .val (.long p1), .second, .val (.long p2), .second, .val (.long p3), .second, .val (.int p4), .val (.int q9), .val (.int q10), .val (.int q11), .val (.int q12), .val (.int q13), .val (.int q14), .val (.int q15), .val (.int q16), .val (.int n1), .val (.int n3), .val (.int n2), .val (.int n4), .val (.int m1), .val (.int m3), .val (.int (if q16 < q15 then q16 else q15)), .unset, .unset, .unset, .unset] []))
  refine own_Go.st (fun _ kt => XS.iload X7.here hx rfl (hb hby at_111) rfl kt) ?_
  show own_Go p e below _ (T7.setTop (mkF m 113 #[.val (.long p0), .second, .val (.long p1), .second, .val (.long p2), .second, .val (.long p3), .second, .val (.int p4), .val (.int q9), .val (.int q10), .val (.int q11), .val (.int q12), .val (.int q13), .val (.int q14), .val (.int q15), .val (.int q16), .val (.int n1), .val (.int n3), .val (.int n2), .val (.int n4), .val (.int m1), .val (.int m3), .val (.int (if q16 < q15 then q16 else q15)), .unset, .unset, .unset, .unset] [(.int q15)]))
  refine own_Go.st (fun _ kt => XS.iload X7.here hx rfl (hb hby at_113) rfl kt) ?_
  show own_Go p e below _ (T7.setTop (mkF m 115 #[.val (.long p0), .second, .val (.long p1), .second, .val (.long p2), .second, .val (.long p3), .second, .val (.int p4), .val (.int q9), .val (.int q10), .val (.int q11), .val (.int q12), .val (.int q13), .val (.int q14), .val (.int q15), .val (.int q16), .val (.int n1), .val (.int n3), .val (.int n2), .val (.int n4), .val (.int m1), .val (.int m3), .val (.int (if q16 < q15 then q16 else q15)), .unset, .unset, .unset, .unset] [(.int q16), (.int q15)]))
  obtain ⟨_, _, ⟨T8, L8, k8, n8⟩, -, X8, ⟨Lc8, hQ8, l8, y8, z8⟩, st8⟩ := Jvm.LawKit.callS X7 hx (y := (⟨"java/lang/Math", "max", "(II)I"⟩ : MethodName)) hown (mvT hZ (hw _ (List.mem_of_getElem? (i := 4) rfl))) (mvT hZ (hw _ (List.mem_of_getElem? (i := 5) rfl))) (mvT hZ (hw _ (List.mem_of_getElem? (i := 2) rfl))) (mvT hZ (hw _ (List.mem_of_getElem? (i := 6) rfl))) (by decide) (backOf (W := 0) (own_max l Z a0 hw [] q15 q16 h0 n0 Z0 ) hZ (hw _ (List.mem_of_getElem? (i := 6) rfl)) (hw _ (List.mem_of_getElem? (i := 2) rfl)) (by decide) (by decide)) (g := (mkF m 115 #[.val (.long p0), .second, .val (.long p1), .second, .val (.long p2), .second, .val (.long p3), .second, .val (.int p4), .val (.int q9), .val (.int q10), .val (.int q11), .val (.int q12), .val (.int q13), .val (.int q14), .val (.int q15), .val (.int q16), .val (.int n1), .val (.int n3), .val (.int n2), .val (.int n4), .val (.int m1), .val (.int m3), .val (.int (if q16 < q15 then q16 else q15)), .unset, .unset, .unset, .unset] [(.int q16), (.int q15)])) rfl (by rw [hml]; rfl) (argsL := [(.int q15), (.int q16)]) (rest := []) (lenOf own_pd7 rfl) rfl (by show 2 * 0 + _ ≤ _; exact Nat.le_of_eq rfl) (hb hby at_115) (fun _ _ => ⟨rfl, hh7, (by decide : 0 + 0 ≤ _), (by decide : 0 + 0 ≤ _)⟩)
  dsimp only [Pt.U, Pt.locs, Pt.cells, Pt.slots] at X8 l8 y8 z8 st8 hQ8
  subst l8 y8 z8
  obtain ⟨rfl, N8q, hh8⟩ := hQ8
  have N8 := Fr.app N7 N8q
  refine own_Go.st (fun _ kt => st8 _ kt) ?_
  show own_Go p e below _ (T8.setTop (mkF m 118 #[.val (.long p0), .second, .val (.long p1), .second, .val (.long p2), .second, .val (.long p3), .second, .val (.int p4), .val (.int q9), .val (.int q10), .val (.int q11), .val (.int q12), .val (.int q13), .val (.int q14), .val (.int q15), .val (.int q16), .val (.int n1), .val (.int n3), .val (.int n2), .val (.int n4), .val (.int m1), .val (.int m3), .val (.int (if q16 < q15 then q16 else q15)), .unset, .unset, .unset, .unset] [(.int (if q15 < q16 then q16 else q15))]))
  refine own_Go.st (fun _ kt => XS.istore X8.here hx rfl (hb hby at_118) rfl (l' := #[.val (.long p0), .second, .val (.long p1), .second, .val (.long p2), .second, .val (.long p3), .second, .val (.int p4), .val (.int q9), .val (.int q10), .val (.int q11), .val (.int q12), .val (.int q13), .val (.int q14), .val (.int q15), .val (.int q16), .val (.int n1), .val (.int n3), .val (.int n2), .val (.int n4), .val (.int m1), .val (.int m3), .val (.int (if q16 < q15 then q16 else q15)), .val (.int (if q15 < q16 then q16 else q15)), .unset, .unset, .unset]) rfl kt) ?_
  show own_Go p e below _ (T8.setTop (mkF m 120 #[.val (.long p0), .second, .val (.long p1), .second, .val (.long p2), .second, .val (.long p3), .second, .val (.int p4), .val (.int q9), .val (.int q10), .val (.int q11), .val (.int q12), .val (.int q13), .val (.int q14), .val (.int q15), .val (.int q16), .val (.int n1), .val (.int n3), .val (.int n2), .val (.int n4), .val (.int m1), .val (.int m3), .val (.int (if q16 < q15 then q16 else q15)), .val (.int (if q15 < q16 then q16 else q15)), .unset, .unset, .unset] []))
  have h_m2 := own_mm q15 q16
  generalize (if q16 < q15 then q16 else q15) = m2 at h_m2 ⊢
  generalize (if q15 < q16 then q16 else q15) = m4 at h_m2 ⊢
  show own_Go p e below _ (T8.setTop (mkF m 120 #[.val (.long p0), .second, .val (.long p1), .second, .val (.long p2), .second, .val (.long p3), .second, .val (.int p4), .val (.int q9), .val (.int q10), .val (.int q11), .val (.int q12), .val (.int q13), .val (.int q14), .val (.int q15), .val (.int q16), .val (.int n1), .val (.int n3), .val (.int n2), .val (.int n4), .val (.int m1), .val (.int m3), .val (.int m2), .val (.int m4), .unset, .unset, .unset] []))
  rw [← own_lt64] at h_m2
  obtain ⟨T9, h9, X9, e9, E9, A9, D9, U9, st9⟩ := newO X8 hx hZ hown (hw _ (List.mem_of_getElem? (i := 7) rfl)) (hw _ (List.mem_of_getElem? (i := 8) rfl)) (hw _ (List.mem_of_getElem? (i := 9) rfl)) hh8 (g := (mkF m 120 #[.val (.long p0), .second, .val (.long p1), .second, .val (.long p2), .second, .val (.long p3), .second, .val (.int p4), .val (.int q9), .val (.int q10), .val (.int q11), .val (.int q12), .val (.int q13), .val (.int q14), .val (.int q15), .val (.int q16), .val (.int n1), .val (.int n3), .val (.int n2), .val (.int n4), .val (.int m1), .val (.int m3), .val (.int m2), .val (.int m4), .unset, .unset, .unset] [])) rfl (hb hby at_120) (by decide) (by decide)
  obtain ⟨ao, g9⟩ : ∃ z, z = Array.size h0 := ⟨_, rfl⟩
  rw [← g9] at A9 D9 U9 st9
  refine own_Go.st st9 ?_
  have n0_ao : n0 ≤ ao := Nat.le_trans Z0 (Nat.le_of_eq g9.symm)
  have zz10 : n0 ≤ Array.size h9 := Nat.le_trans Z0 E9.1
  have D9_minX : Fld Z h9 ao "com/example/thicket/thicket/Rect" "minX" "D" (.double 0) := D9 (Or.inr (hw _ (List.mem_of_getElem? (i := 35) rfl))) (ty := .double) (by decide)
  have D9_minY : Fld Z h9 ao "com/example/thicket/thicket/Rect" "minY" "D" (.double 0) := D9 (Or.inr (hw _ (List.mem_of_getElem? (i := 37) rfl))) (ty := .double) (by decide)
  have D9_maxX : Fld Z h9 ao "com/example/thicket/thicket/Rect" "maxX" "D" (.double 0) := D9 (Or.inr (hw _ (List.mem_of_getElem? (i := 39) rfl))) (ty := .double) (by decide)
  have D9_maxY : Fld Z h9 ao "com/example/thicket/thicket/Rect" "maxY" "D" (.double 0) := D9 (Or.inr (hw _ (List.mem_of_getElem? (i := 41) rfl))) (ty := .double) (by decide)
  show own_Go p e below _ (T9.setTop (mkF m 123 #[.val (.long p0), .second, .val (.long p1), .second, .val (.long p2), .second, .val (.long p3), .second, .val (.int p4), .val (.int q9), .val (.int q10), .val (.int q11), .val (.int q12), .val (.int q13), .val (.int q14), .val (.int q15), .val (.int q16), .val (.int n1), .val (.int n3), .val (.int n2), .val (.int n4), .val (.int m1), .val (.int m3), .val (.int m2), .val (.int m4), .unset, .unset, .unset] [(.ref ao)]))
  refine own_Go.st (fun _ kt => XS.dup X9.here hx rfl (hb hby at_123) rfl rfl kt) ?_
  show own_Go p e below _ (T9.setTop (mkF m 124 #[.val (.long p0), .second, .val (.long p1), .second, .val (.long p2), .second, .val (.long p3), .second, .val (.int p4), .val (.int q9), .val (.int q10), .val (.int q11), .val (.int q12), .val (.int q13), .val (.int q14), .val (.int q15), .val (.int q16), .val (.int n1), .val (.int n3), .val (.int n2), .val (.int n4), .val (.int m1), .val (.int m3), .val (.int m2), .val (.int m4), .unset, .unset, .unset] [(.ref ao), (.ref ao)]))
  refine own_Go.st (fun _ kt => XS.iload X9.here hx rfl (hb hby at_124) rfl kt) ?_
  show own_Go p e below _ (T9.setTop (mkF m 126 #[.val (.long p0), .second, .val (.long p1), .second, .val (.long p2), .second, .val (.long p3), .second, .val (.int p4), .val (.int q9), .val (.int q10), .val (.int q11), .val (.int q12), .val (.int q13), .val (.int q14), .val (.int q15), .val (.int q16), .val (.int n1), .val (.int n3), .val (.int n2), .val (.int n4), .val (.int m1), .val (.int m3), .val (.int m2), .val (.int m4), .unset, .unset, .unset] [(.int n1), (.ref ao), (.ref ao)]))
  refine own_Go.st (fun _ kt => XS.iload X9.here hx rfl (hb hby at_126) rfl kt) ?_
  show own_Go p e below _ (T9.setTop (mkF m 128 #[.val (.long p0), .second, .val (.long p1), .second, .val (.long p2), .second, .val (.long p3), .second, .val (.int p4), .val (.int q9), .val (.int q10), .val (.int q11), .val (.int q12), .val (.int q13), .val (.int q14), .val (.int q15), .val (.int q16), .val (.int n1), .val (.int n3), .val (.int n2), .val (.int n4), .val (.int m1), .val (.int m3), .val (.int m2), .val (.int m4), .unset, .unset, .unset] [(.int p4), (.int n1), (.ref ao), (.ref ao)]))
  refine own_Go.st (fun _ kt => XS.iconst X9.here hx rfl (hb hby at_128) kt) ?_
  show own_Go p e below _ (T9.setTop (mkF m 129 #[.val (.long p0), .second, .val (.long p1), .second, .val (.long p2), .second, .val (.long p3), .second, .val (.int p4), .val (.int q9), .val (.int q10), .val (.int q11), .val (.int q12), .val (.int q13), .val (.int q14), .val (.int q15), .val (.int q16), .val (.int n1), .val (.int n3), .val (.int n2), .val (.int n4), .val (.int m1), .val (.int m3), .val (.int m2), .val (.int m4), .unset, .unset, .unset] [(.int (0 : Int32)), (.int p4), (.int n1), (.ref ao), (.ref ao)]))
  obtain ⟨_, _, ⟨T11, L11, k11, n11⟩, -, X11, ⟨Lc11, hQ11, l11, y11, z11⟩, st11⟩ := Jvm.LawKit.callS X9 hx (y := (⟨"com/example/thicket/thicket/RectContainsPinLaw", "coord", "(III)D"⟩ : MethodName)) hown (mvT hZ (hw _ (List.mem_of_getElem? (i := 10) rfl))) (mvT hZ (hw _ (List.mem_of_getElem? (i := 11) rfl))) (mvT hZ (hw _ (List.mem_of_getElem? (i := 12) rfl))) (mvT hZ (hw _ (List.mem_of_getElem? (i := 13) rfl))) (by decide) (backOf (W := 2) (own_coord l Z a0 hw [] n1 p4 (0 : Int32) h9 n0 zz10 ) hZ (hw _ (List.mem_of_getElem? (i := 13) rfl)) (hw _ (List.mem_of_getElem? (i := 12) rfl)) (by decide) (by decide)) (g := (mkF m 129 #[.val (.long p0), .second, .val (.long p1), .second, .val (.long p2), .second, .val (.long p3), .second, .val (.int p4), .val (.int q9), .val (.int q10), .val (.int q11), .val (.int q12), .val (.int q13), .val (.int q14), .val (.int q15), .val (.int q16), .val (.int n1), .val (.int n3), .val (.int n2), .val (.int n4), .val (.int m1), .val (.int m3), .val (.int m2), .val (.int m4), .unset, .unset, .unset] [(.int (0 : Int32)), (.int p4), (.int n1), (.ref ao), (.ref ao)])) rfl (by rw [hml]; rfl) (argsL := [(.int n1), (.int p4), (.int (0 : Int32))]) (rest := [(.ref ao), (.ref ao)]) (lenOf own_pd8 rfl) rfl (by show 2 * 0 + _ ≤ _; exact Nat.le_of_eq rfl) (hb hby at_129) (fun _ _ => ⟨rfl, e9, (by decide : 1 + 0 ≤ _), (by decide : 4 + 0 ≤ _)⟩)
  dsimp only [Pt.U, Pt.locs, Pt.cells, Pt.slots] at X11 l11 y11 z11 st11 hQ11
  subst l11 y11 z11
  obtain ⟨dn1, rfl, N11q, lk_dn1, hh11⟩ := hQ11
  have N11 := Fr.app N8 N11q
  refine own_Go.st (fun _ kt => st11 _ kt) ?_
  show own_Go p e below _ (T11.setTop (mkF m 132 #[.val (.long p0), .second, .val (.long p1), .second, .val (.long p2), .second, .val (.long p3), .second, .val (.int p4), .val (.int q9), .val (.int q10), .val (.int q11), .val (.int q12), .val (.int q13), .val (.int q14), .val (.int q15), .val (.int q16), .val (.int n1), .val (.int n3), .val (.int n2), .val (.int n4), .val (.int m1), .val (.int m3), .val (.int m2), .val (.int m4), .unset, .unset, .unset] [(.double dn1), (.ref ao), (.ref ao)]))
  refine own_Go.st (fun _ kt => XS.iload X11.here hx rfl (hb hby at_132) rfl kt) ?_
  show own_Go p e below _ (T11.setTop (mkF m 134 #[.val (.long p0), .second, .val (.long p1), .second, .val (.long p2), .second, .val (.long p3), .second, .val (.int p4), .val (.int q9), .val (.int q10), .val (.int q11), .val (.int q12), .val (.int q13), .val (.int q14), .val (.int q15), .val (.int q16), .val (.int n1), .val (.int n3), .val (.int n2), .val (.int n4), .val (.int m1), .val (.int m3), .val (.int m2), .val (.int m4), .unset, .unset, .unset] [(.int n2), (.double dn1), (.ref ao), (.ref ao)]))
  refine own_Go.st (fun _ kt => XS.iload X11.here hx rfl (hb hby at_134) rfl kt) ?_
  show own_Go p e below _ (T11.setTop (mkF m 136 #[.val (.long p0), .second, .val (.long p1), .second, .val (.long p2), .second, .val (.long p3), .second, .val (.int p4), .val (.int q9), .val (.int q10), .val (.int q11), .val (.int q12), .val (.int q13), .val (.int q14), .val (.int q15), .val (.int q16), .val (.int n1), .val (.int n3), .val (.int n2), .val (.int n4), .val (.int m1), .val (.int m3), .val (.int m2), .val (.int m4), .unset, .unset, .unset] [(.int p4), (.int n2), (.double dn1), (.ref ao), (.ref ao)]))
  refine own_Go.st (fun _ kt => XS.iconst X11.here hx rfl (hb hby at_136) kt) ?_
  show own_Go p e below _ (T11.setTop (mkF m 137 #[.val (.long p0), .second, .val (.long p1), .second, .val (.long p2), .second, .val (.long p3), .second, .val (.int p4), .val (.int q9), .val (.int q10), .val (.int q11), .val (.int q12), .val (.int q13), .val (.int q14), .val (.int q15), .val (.int q16), .val (.int n1), .val (.int n3), .val (.int n2), .val (.int n4), .val (.int m1), .val (.int m3), .val (.int m2), .val (.int m4), .unset, .unset, .unset] [(.int (1 : Int32)), (.int p4), (.int n2), (.double dn1), (.ref ao), (.ref ao)]))
  obtain ⟨_, _, ⟨T12, L12, k12, n12⟩, -, X12, ⟨Lc12, hQ12, l12, y12, z12⟩, st12⟩ := Jvm.LawKit.callS X11 hx (y := (⟨"com/example/thicket/thicket/RectContainsPinLaw", "coord", "(III)D"⟩ : MethodName)) hown (mvT hZ (hw _ (List.mem_of_getElem? (i := 10) rfl))) (mvT hZ (hw _ (List.mem_of_getElem? (i := 11) rfl))) (mvT hZ (hw _ (List.mem_of_getElem? (i := 12) rfl))) (mvT hZ (hw _ (List.mem_of_getElem? (i := 13) rfl))) (by decide) (backOf (W := 4) (own_coord l Z a0 hw [] n2 p4 (1 : Int32) h9 n0 zz10 ) hZ (hw _ (List.mem_of_getElem? (i := 13) rfl)) (hw _ (List.mem_of_getElem? (i := 12) rfl)) (by decide) (by decide)) (g := (mkF m 137 #[.val (.long p0), .second, .val (.long p1), .second, .val (.long p2), .second, .val (.long p3), .second, .val (.int p4), .val (.int q9), .val (.int q10), .val (.int q11), .val (.int q12), .val (.int q13), .val (.int q14), .val (.int q15), .val (.int q16), .val (.int n1), .val (.int n3), .val (.int n2), .val (.int n4), .val (.int m1), .val (.int m3), .val (.int m2), .val (.int m4), .unset, .unset, .unset] [(.int (1 : Int32)), (.int p4), (.int n2), (.double dn1), (.ref ao), (.ref ao)])) rfl (by rw [hml]; rfl) (argsL := [(.int n2), (.int p4), (.int (1 : Int32))]) (rest := [(.double dn1), (.ref ao), (.ref ao)]) (lenOf own_pd8 rfl) rfl (by show 2 * 0 + _ ≤ _; exact Nat.le_of_eq rfl) (hb hby at_137) (fun _ _ => ⟨rfl, hh11, (by decide : 1 + 0 ≤ _), (by decide : 4 + 0 ≤ _)⟩)
  dsimp only [Pt.U, Pt.locs, Pt.cells, Pt.slots] at X12 l12 y12 z12 st12 hQ12
  subst l12 y12 z12
  obtain ⟨dn2, rfl, N12q, lk_dn2, hh12⟩ := hQ12
  have N12 := Fr.app N11 N12q
  refine own_Go.st (fun _ kt => st12 _ kt) ?_
  show own_Go p e below _ (T12.setTop (mkF m 140 #[.val (.long p0), .second, .val (.long p1), .second, .val (.long p2), .second, .val (.long p3), .second, .val (.int p4), .val (.int q9), .val (.int q10), .val (.int q11), .val (.int q12), .val (.int q13), .val (.int q14), .val (.int q15), .val (.int q16), .val (.int n1), .val (.int n3), .val (.int n2), .val (.int n4), .val (.int m1), .val (.int m3), .val (.int m2), .val (.int m4), .unset, .unset, .unset] [(.double dn2), (.double dn1), (.ref ao), (.ref ao)]))
  refine own_Go.st (fun _ kt => XS.iload X12.here hx rfl (hb hby at_140) rfl kt) ?_
  show own_Go p e below _ (T12.setTop (mkF m 142 #[.val (.long p0), .second, .val (.long p1), .second, .val (.long p2), .second, .val (.long p3), .second, .val (.int p4), .val (.int q9), .val (.int q10), .val (.int q11), .val (.int q12), .val (.int q13), .val (.int q14), .val (.int q15), .val (.int q16), .val (.int n1), .val (.int n3), .val (.int n2), .val (.int n4), .val (.int m1), .val (.int m3), .val (.int m2), .val (.int m4), .unset, .unset, .unset] [(.int n3), (.double dn2), (.double dn1), (.ref ao), (.ref ao)]))
  refine own_Go.st (fun _ kt => XS.iload X12.here hx rfl (hb hby at_142) rfl kt) ?_
  show own_Go p e below _ (T12.setTop (mkF m 144 #[.val (.long p0), .second, .val (.long p1), .second, .val (.long p2), .second, .val (.long p3), .second, .val (.int p4), .val (.int q9), .val (.int q10), .val (.int q11), .val (.int q12), .val (.int q13), .val (.int q14), .val (.int q15), .val (.int q16), .val (.int n1), .val (.int n3), .val (.int n2), .val (.int n4), .val (.int m1), .val (.int m3), .val (.int m2), .val (.int m4), .unset, .unset, .unset] [(.int p4), (.int n3), (.double dn2), (.double dn1), (.ref ao), (.ref ao)]))
  refine own_Go.st (fun _ kt => XS.iconst X12.here hx rfl (hb hby at_144) kt) ?_
  show own_Go p e below _ (T12.setTop (mkF m 145 #[.val (.long p0), .second, .val (.long p1), .second, .val (.long p2), .second, .val (.long p3), .second, .val (.int p4), .val (.int q9), .val (.int q10), .val (.int q11), .val (.int q12), .val (.int q13), .val (.int q14), .val (.int q15), .val (.int q16), .val (.int n1), .val (.int n3), .val (.int n2), .val (.int n4), .val (.int m1), .val (.int m3), .val (.int m2), .val (.int m4), .unset, .unset, .unset] [(.int (2 : Int32)), (.int p4), (.int n3), (.double dn2), (.double dn1), (.ref ao), (.ref ao)]))
  obtain ⟨_, _, ⟨T13, L13, k13, n13⟩, -, X13, ⟨Lc13, hQ13, l13, y13, z13⟩, st13⟩ := Jvm.LawKit.callS X12 hx (y := (⟨"com/example/thicket/thicket/RectContainsPinLaw", "coord", "(III)D"⟩ : MethodName)) hown (mvT hZ (hw _ (List.mem_of_getElem? (i := 10) rfl))) (mvT hZ (hw _ (List.mem_of_getElem? (i := 11) rfl))) (mvT hZ (hw _ (List.mem_of_getElem? (i := 12) rfl))) (mvT hZ (hw _ (List.mem_of_getElem? (i := 13) rfl))) (by decide) (backOf (W := 6) (own_coord l Z a0 hw [] n3 p4 (2 : Int32) h9 n0 zz10 ) hZ (hw _ (List.mem_of_getElem? (i := 13) rfl)) (hw _ (List.mem_of_getElem? (i := 12) rfl)) (by decide) (by decide)) (g := (mkF m 145 #[.val (.long p0), .second, .val (.long p1), .second, .val (.long p2), .second, .val (.long p3), .second, .val (.int p4), .val (.int q9), .val (.int q10), .val (.int q11), .val (.int q12), .val (.int q13), .val (.int q14), .val (.int q15), .val (.int q16), .val (.int n1), .val (.int n3), .val (.int n2), .val (.int n4), .val (.int m1), .val (.int m3), .val (.int m2), .val (.int m4), .unset, .unset, .unset] [(.int (2 : Int32)), (.int p4), (.int n3), (.double dn2), (.double dn1), (.ref ao), (.ref ao)])) rfl (by rw [hml]; rfl) (argsL := [(.int n3), (.int p4), (.int (2 : Int32))]) (rest := [(.double dn2), (.double dn1), (.ref ao), (.ref ao)]) (lenOf own_pd8 rfl) rfl (by show 2 * 0 + _ ≤ _; exact Nat.le_of_eq rfl) (hb hby at_145) (fun _ _ => ⟨rfl, hh12, (by decide : 1 + 0 ≤ _), (by decide : 4 + 0 ≤ _)⟩)
  dsimp only [Pt.U, Pt.locs, Pt.cells, Pt.slots] at X13 l13 y13 z13 st13 hQ13
  subst l13 y13 z13
  obtain ⟨dn3, rfl, N13q, lk_dn3, hh13⟩ := hQ13
  have N13 := Fr.app N12 N13q
  refine own_Go.st (fun _ kt => st13 _ kt) ?_
  show own_Go p e below _ (T13.setTop (mkF m 148 #[.val (.long p0), .second, .val (.long p1), .second, .val (.long p2), .second, .val (.long p3), .second, .val (.int p4), .val (.int q9), .val (.int q10), .val (.int q11), .val (.int q12), .val (.int q13), .val (.int q14), .val (.int q15), .val (.int q16), .val (.int n1), .val (.int n3), .val (.int n2), .val (.int n4), .val (.int m1), .val (.int m3), .val (.int m2), .val (.int m4), .unset, .unset, .unset] [(.double dn3), (.double dn2), (.double dn1), (.ref ao), (.ref ao)]))
  refine own_Go.st (fun _ kt => XS.iload X13.here hx rfl (hb hby at_148) rfl kt) ?_
  show own_Go p e below _ (T13.setTop (mkF m 150 #[.val (.long p0), .second, .val (.long p1), .second, .val (.long p2), .second, .val (.long p3), .second, .val (.int p4), .val (.int q9), .val (.int q10), .val (.int q11), .val (.int q12), .val (.int q13), .val (.int q14), .val (.int q15), .val (.int q16), .val (.int n1), .val (.int n3), .val (.int n2), .val (.int n4), .val (.int m1), .val (.int m3), .val (.int m2), .val (.int m4), .unset, .unset, .unset] [(.int n4), (.double dn3), (.double dn2), (.double dn1), (.ref ao), (.ref ao)]))
  refine own_Go.st (fun _ kt => XS.iload X13.here hx rfl (hb hby at_150) rfl kt) ?_
  show own_Go p e below _ (T13.setTop (mkF m 152 #[.val (.long p0), .second, .val (.long p1), .second, .val (.long p2), .second, .val (.long p3), .second, .val (.int p4), .val (.int q9), .val (.int q10), .val (.int q11), .val (.int q12), .val (.int q13), .val (.int q14), .val (.int q15), .val (.int q16), .val (.int n1), .val (.int n3), .val (.int n2), .val (.int n4), .val (.int m1), .val (.int m3), .val (.int m2), .val (.int m4), .unset, .unset, .unset] [(.int p4), (.int n4), (.double dn3), (.double dn2), (.double dn1), (.ref ao), (.ref ao)]))
  refine own_Go.st (fun _ kt => XS.iconst X13.here hx rfl (hb hby at_152) kt) ?_
  show own_Go p e below _ (T13.setTop (mkF m 153 #[.val (.long p0), .second, .val (.long p1), .second, .val (.long p2), .second, .val (.long p3), .second, .val (.int p4), .val (.int q9), .val (.int q10), .val (.int q11), .val (.int q12), .val (.int q13), .val (.int q14), .val (.int q15), .val (.int q16), .val (.int n1), .val (.int n3), .val (.int n2), .val (.int n4), .val (.int m1), .val (.int m3), .val (.int m2), .val (.int m4), .unset, .unset, .unset] [(.int (3 : Int32)), (.int p4), (.int n4), (.double dn3), (.double dn2), (.double dn1), (.ref ao), (.ref ao)]))
  obtain ⟨_, _, ⟨T14, L14, k14, n14⟩, -, X14, ⟨Lc14, hQ14, l14, y14, z14⟩, st14⟩ := Jvm.LawKit.callS X13 hx (y := (⟨"com/example/thicket/thicket/RectContainsPinLaw", "coord", "(III)D"⟩ : MethodName)) hown (mvT hZ (hw _ (List.mem_of_getElem? (i := 10) rfl))) (mvT hZ (hw _ (List.mem_of_getElem? (i := 11) rfl))) (mvT hZ (hw _ (List.mem_of_getElem? (i := 12) rfl))) (mvT hZ (hw _ (List.mem_of_getElem? (i := 13) rfl))) (by decide) (backOf (W := 8) (own_coord l Z a0 hw [] n4 p4 (3 : Int32) h9 n0 zz10 ) hZ (hw _ (List.mem_of_getElem? (i := 13) rfl)) (hw _ (List.mem_of_getElem? (i := 12) rfl)) (by decide) (by decide)) (g := (mkF m 153 #[.val (.long p0), .second, .val (.long p1), .second, .val (.long p2), .second, .val (.long p3), .second, .val (.int p4), .val (.int q9), .val (.int q10), .val (.int q11), .val (.int q12), .val (.int q13), .val (.int q14), .val (.int q15), .val (.int q16), .val (.int n1), .val (.int n3), .val (.int n2), .val (.int n4), .val (.int m1), .val (.int m3), .val (.int m2), .val (.int m4), .unset, .unset, .unset] [(.int (3 : Int32)), (.int p4), (.int n4), (.double dn3), (.double dn2), (.double dn1), (.ref ao), (.ref ao)])) rfl (by rw [hml]; rfl) (argsL := [(.int n4), (.int p4), (.int (3 : Int32))]) (rest := [(.double dn3), (.double dn2), (.double dn1), (.ref ao), (.ref ao)]) (lenOf own_pd8 rfl) rfl (by show 2 * 0 + _ ≤ _; exact Nat.le_of_eq rfl) (hb hby at_153) (fun _ _ => ⟨rfl, hh13, (by decide : 1 + 0 ≤ _), (by decide : 4 + 0 ≤ _)⟩)
  dsimp only [Pt.U, Pt.locs, Pt.cells, Pt.slots] at X14 l14 y14 z14 st14 hQ14
  subst l14 y14 z14
  obtain ⟨dn4, rfl, N14q, lk_dn4, hh14⟩ := hQ14
  have N14 := Fr.app N13 N14q
  refine own_Go.st (fun _ kt => st14 _ kt) ?_
  show own_Go p e below _ (T14.setTop (mkF m 156 #[.val (.long p0), .second, .val (.long p1), .second, .val (.long p2), .second, .val (.long p3), .second, .val (.int p4), .val (.int q9), .val (.int q10), .val (.int q11), .val (.int q12), .val (.int q13), .val (.int q14), .val (.int q15), .val (.int q16), .val (.int n1), .val (.int n3), .val (.int n2), .val (.int n4), .val (.int m1), .val (.int m3), .val (.int m2), .val (.int m4), .unset, .unset, .unset] [(.double dn4), (.double dn3), (.double dn2), (.double dn1), (.ref ao), (.ref ao)]))
  obtain ⟨_, _, ⟨T15, L15, k15, n15⟩, -, X15, ⟨Lc15, hQ15, l15, y15, z15⟩, st15⟩ := X14.specialBack hx (y := (⟨"com/example/thicket/thicket/Rect", "<init>", "(DDDD)V"⟩ : MethodName)) rfl hown (mvT hZ (hw _ (List.mem_of_getElem? (i := 15) rfl))) (mvT hZ (hw _ (List.mem_of_getElem? (i := 16) rfl))) (mvT hZ (hw _ (List.mem_of_getElem? (i := 17) rfl))) (by decide) (backOf (W := 1) (own_rinit l Z a0 hw [] ao dn1 dn2 dn3 dn4 n1.toInt64 n2.toInt64 n3.toInt64 n4.toInt64 h9 n0 zz10 A9 D9_minX D9_minY D9_maxX D9_maxY n0_ao lk_dn1 (own_i64 n1) lk_dn2 (own_i64 n2) lk_dn3 (own_i64 n3) lk_dn4 (own_i64 n4) h_n1 h_n2) hZ (hw _ (List.mem_of_getElem? (i := 17) rfl)) (hw _ (List.mem_of_getElem? (i := 9) rfl)) (by decide) (by decide)) (g := (mkF m 156 #[.val (.long p0), .second, .val (.long p1), .second, .val (.long p2), .second, .val (.long p3), .second, .val (.int p4), .val (.int q9), .val (.int q10), .val (.int q11), .val (.int q12), .val (.int q13), .val (.int q14), .val (.int q15), .val (.int q16), .val (.int n1), .val (.int n3), .val (.int n2), .val (.int n4), .val (.int m1), .val (.int m3), .val (.int m2), .val (.int m4), .unset, .unset, .unset] [(.double dn4), (.double dn3), (.double dn2), (.double dn1), (.ref ao), (.ref ao)])) rfl (by rw [hml]; rfl) (Steps.refl _) (a := ao) (argsL := [(.double dn1), (.double dn2), (.double dn3), (.double dn4)]) (rest := [(.ref ao)]) (lenOf own_pd9 rfl) rfl (by show 2 * 0 + _ ≤ _; exact Nat.le_of_eq rfl) (hb hby at_156) (fun _ _ => ⟨rfl, hh14, (by decide : 1 + 0 ≤ _), (by decide : 4 + 0 ≤ _)⟩)
  dsimp only [Pt.U, Pt.locs, Pt.cells, Pt.slots] at X15 l15 y15 z15 st15 hQ15
  subst l15 y15 z15
  obtain ⟨rfl, N15q, EO15, ny1, ny2, ny3, ny4, kn1, kn2, kn3, kn4, F15_1, F15_2, F15_3, F15_4, KO15⟩ := hQ15
  have N15 := Fr.app N14 N15q
  refine own_Go.st (fun _ kt => st15.trans kt) ?_
  have zz16 : n0 ≤ Array.size T15.heap := Nat.le_trans zz10 KO15.1
  show own_Go p e below _ (T15.setTop (mkF m 159 #[.val (.long p0), .second, .val (.long p1), .second, .val (.long p2), .second, .val (.long p3), .second, .val (.int p4), .val (.int q9), .val (.int q10), .val (.int q11), .val (.int q12), .val (.int q13), .val (.int q14), .val (.int q15), .val (.int q16), .val (.int n1), .val (.int n3), .val (.int n2), .val (.int n4), .val (.int m1), .val (.int m3), .val (.int m2), .val (.int m4), .unset, .unset, .unset] [(.ref ao)]))
  refine own_Go.st (fun _ kt => XS.astore X15.here hx rfl (hb hby at_159) rfl rfl (l' := #[.val (.long p0), .second, .val (.long p1), .second, .val (.long p2), .second, .val (.long p3), .second, .val (.int p4), .val (.int q9), .val (.int q10), .val (.int q11), .val (.int q12), .val (.int q13), .val (.int q14), .val (.int q15), .val (.int q16), .val (.int n1), .val (.int n3), .val (.int n2), .val (.int n4), .val (.int m1), .val (.int m3), .val (.int m2), .val (.int m4), .val (.ref ao), .unset, .unset]) rfl kt) ?_
  show own_Go p e below _ (T15.setTop (mkF m 161 #[.val (.long p0), .second, .val (.long p1), .second, .val (.long p2), .second, .val (.long p3), .second, .val (.int p4), .val (.int q9), .val (.int q10), .val (.int q11), .val (.int q12), .val (.int q13), .val (.int q14), .val (.int q15), .val (.int q16), .val (.int n1), .val (.int n3), .val (.int n2), .val (.int n4), .val (.int m1), .val (.int m3), .val (.int m2), .val (.int m4), .val (.ref ao), .unset, .unset] []))
  obtain ⟨T17, h17, X17, e17, E17, A17, D17, U17, st17⟩ := newO X15 hx hZ hown (hw _ (List.mem_of_getElem? (i := 7) rfl)) (hw _ (List.mem_of_getElem? (i := 8) rfl)) (hw _ (List.mem_of_getElem? (i := 9) rfl)) rfl (g := (mkF m 161 #[.val (.long p0), .second, .val (.long p1), .second, .val (.long p2), .second, .val (.long p3), .second, .val (.int p4), .val (.int q9), .val (.int q10), .val (.int q11), .val (.int q12), .val (.int q13), .val (.int q14), .val (.int q15), .val (.int q16), .val (.int n1), .val (.int n3), .val (.int n2), .val (.int n4), .val (.int m1), .val (.int m3), .val (.int m2), .val (.int m4), .val (.ref ao), .unset, .unset] [])) rfl (hb hby at_161) (by decide) (by decide)
  obtain ⟨ab, g17⟩ : ∃ z, z = Array.size T15.heap := ⟨_, rfl⟩
  rw [← g17] at A17 D17 U17 st17
  refine own_Go.st st17 ?_
  have ne_ao_ab : ao ≠ ab := Nat.ne_of_lt (Nat.lt_of_lt_of_le (EO15).lt (Nat.le_of_eq g17.symm))
  have n0_ab : n0 ≤ ab := Nat.le_trans zz16 (Nat.le_of_eq g17.symm)
  have zz18 : n0 ≤ Array.size h17 := Nat.le_trans zz16 E17.1
  have D17_minX : Fld Z h17 ab "com/example/thicket/thicket/Rect" "minX" "D" (.double 0) := D17 (Or.inr (hw _ (List.mem_of_getElem? (i := 35) rfl))) (ty := .double) (by decide)
  have D17_minY : Fld Z h17 ab "com/example/thicket/thicket/Rect" "minY" "D" (.double 0) := D17 (Or.inr (hw _ (List.mem_of_getElem? (i := 37) rfl))) (ty := .double) (by decide)
  have D17_maxX : Fld Z h17 ab "com/example/thicket/thicket/Rect" "maxX" "D" (.double 0) := D17 (Or.inr (hw _ (List.mem_of_getElem? (i := 39) rfl))) (ty := .double) (by decide)
  have D17_maxY : Fld Z h17 ab "com/example/thicket/thicket/Rect" "maxY" "D" (.double 0) := D17 (Or.inr (hw _ (List.mem_of_getElem? (i := 41) rfl))) (ty := .double) (by decide)
  show own_Go p e below _ (T17.setTop (mkF m 164 #[.val (.long p0), .second, .val (.long p1), .second, .val (.long p2), .second, .val (.long p3), .second, .val (.int p4), .val (.int q9), .val (.int q10), .val (.int q11), .val (.int q12), .val (.int q13), .val (.int q14), .val (.int q15), .val (.int q16), .val (.int n1), .val (.int n3), .val (.int n2), .val (.int n4), .val (.int m1), .val (.int m3), .val (.int m2), .val (.int m4), .val (.ref ao), .unset, .unset] [(.ref ab)]))
  refine own_Go.st (fun _ kt => XS.dup X17.here hx rfl (hb hby at_164) rfl rfl kt) ?_
  show own_Go p e below _ (T17.setTop (mkF m 165 #[.val (.long p0), .second, .val (.long p1), .second, .val (.long p2), .second, .val (.long p3), .second, .val (.int p4), .val (.int q9), .val (.int q10), .val (.int q11), .val (.int q12), .val (.int q13), .val (.int q14), .val (.int q15), .val (.int q16), .val (.int n1), .val (.int n3), .val (.int n2), .val (.int n4), .val (.int m1), .val (.int m3), .val (.int m2), .val (.int m4), .val (.ref ao), .unset, .unset] [(.ref ab), (.ref ab)]))
  refine own_Go.st (fun _ kt => XS.iload X17.here hx rfl (hb hby at_165) rfl kt) ?_
  show own_Go p e below _ (T17.setTop (mkF m 167 #[.val (.long p0), .second, .val (.long p1), .second, .val (.long p2), .second, .val (.long p3), .second, .val (.int p4), .val (.int q9), .val (.int q10), .val (.int q11), .val (.int q12), .val (.int q13), .val (.int q14), .val (.int q15), .val (.int q16), .val (.int n1), .val (.int n3), .val (.int n2), .val (.int n4), .val (.int m1), .val (.int m3), .val (.int m2), .val (.int m4), .val (.ref ao), .unset, .unset] [(.int m1), (.ref ab), (.ref ab)]))
  refine own_Go.st (fun _ kt => XS.iload X17.here hx rfl (hb hby at_167) rfl kt) ?_
  show own_Go p e below _ (T17.setTop (mkF m 169 #[.val (.long p0), .second, .val (.long p1), .second, .val (.long p2), .second, .val (.long p3), .second, .val (.int p4), .val (.int q9), .val (.int q10), .val (.int q11), .val (.int q12), .val (.int q13), .val (.int q14), .val (.int q15), .val (.int q16), .val (.int n1), .val (.int n3), .val (.int n2), .val (.int n4), .val (.int m1), .val (.int m3), .val (.int m2), .val (.int m4), .val (.ref ao), .unset, .unset] [(.int p4), (.int m1), (.ref ab), (.ref ab)]))
  refine own_Go.st (fun _ kt => XS.iconst X17.here hx rfl (hb hby at_169) kt) ?_
  show own_Go p e below _ (T17.setTop (mkF m 170 #[.val (.long p0), .second, .val (.long p1), .second, .val (.long p2), .second, .val (.long p3), .second, .val (.int p4), .val (.int q9), .val (.int q10), .val (.int q11), .val (.int q12), .val (.int q13), .val (.int q14), .val (.int q15), .val (.int q16), .val (.int n1), .val (.int n3), .val (.int n2), .val (.int n4), .val (.int m1), .val (.int m3), .val (.int m2), .val (.int m4), .val (.ref ao), .unset, .unset] [(.int (4 : Int32)), (.int p4), (.int m1), (.ref ab), (.ref ab)]))
  obtain ⟨_, _, ⟨T19, L19, k19, n19⟩, -, X19, ⟨Lc19, hQ19, l19, y19, z19⟩, st19⟩ := Jvm.LawKit.callS X17 hx (y := (⟨"com/example/thicket/thicket/RectContainsPinLaw", "coord", "(III)D"⟩ : MethodName)) hown (mvT hZ (hw _ (List.mem_of_getElem? (i := 10) rfl))) (mvT hZ (hw _ (List.mem_of_getElem? (i := 11) rfl))) (mvT hZ (hw _ (List.mem_of_getElem? (i := 12) rfl))) (mvT hZ (hw _ (List.mem_of_getElem? (i := 13) rfl))) (by decide) (backOf (W := 2) (own_coord l Z a0 hw [] m1 p4 (4 : Int32) h17 n0 zz18 ) hZ (hw _ (List.mem_of_getElem? (i := 13) rfl)) (hw _ (List.mem_of_getElem? (i := 12) rfl)) (by decide) (by decide)) (g := (mkF m 170 #[.val (.long p0), .second, .val (.long p1), .second, .val (.long p2), .second, .val (.long p3), .second, .val (.int p4), .val (.int q9), .val (.int q10), .val (.int q11), .val (.int q12), .val (.int q13), .val (.int q14), .val (.int q15), .val (.int q16), .val (.int n1), .val (.int n3), .val (.int n2), .val (.int n4), .val (.int m1), .val (.int m3), .val (.int m2), .val (.int m4), .val (.ref ao), .unset, .unset] [(.int (4 : Int32)), (.int p4), (.int m1), (.ref ab), (.ref ab)])) rfl (by rw [hml]; rfl) (argsL := [(.int m1), (.int p4), (.int (4 : Int32))]) (rest := [(.ref ab), (.ref ab)]) (lenOf own_pd8 rfl) rfl (by show 2 * 0 + _ ≤ _; exact Nat.le_of_eq rfl) (hb hby at_170) (fun _ _ => ⟨rfl, e17, (by decide : 2 + 0 ≤ _), (by decide : 8 + 0 ≤ _)⟩)
  dsimp only [Pt.U, Pt.locs, Pt.cells, Pt.slots] at X19 l19 y19 z19 st19 hQ19
  subst l19 y19 z19
  obtain ⟨dm1, rfl, N19q, lk_dm1, hh19⟩ := hQ19
  have N19 := Fr.app N15 N19q
  refine own_Go.st (fun _ kt => st19 _ kt) ?_
  show own_Go p e below _ (T19.setTop (mkF m 173 #[.val (.long p0), .second, .val (.long p1), .second, .val (.long p2), .second, .val (.long p3), .second, .val (.int p4), .val (.int q9), .val (.int q10), .val (.int q11), .val (.int q12), .val (.int q13), .val (.int q14), .val (.int q15), .val (.int q16), .val (.int n1), .val (.int n3), .val (.int n2), .val (.int n4), .val (.int m1), .val (.int m3), .val (.int m2), .val (.int m4), .val (.ref ao), .unset, .unset] [(.double dm1), (.ref ab), (.ref ab)]))
  refine own_Go.st (fun _ kt => XS.iload X19.here hx rfl (hb hby at_173) rfl kt) ?_
  show own_Go p e below _ (T19.setTop (mkF m 175 #[.val (.long p0), .second, .val (.long p1), .second, .val (.long p2), .second, .val (.long p3), .second, .val (.int p4), .val (.int q9), .val (.int q10), .val (.int q11), .val (.int q12), .val (.int q13), .val (.int q14), .val (.int q15), .val (.int q16), .val (.int n1), .val (.int n3), .val (.int n2), .val (.int n4), .val (.int m1), .val (.int m3), .val (.int m2), .val (.int m4), .val (.ref ao), .unset, .unset] [(.int m2), (.double dm1), (.ref ab), (.ref ab)]))
  refine own_Go.st (fun _ kt => XS.iload X19.here hx rfl (hb hby at_175) rfl kt) ?_
  show own_Go p e below _ (T19.setTop (mkF m 177 #[.val (.long p0), .second, .val (.long p1), .second, .val (.long p2), .second, .val (.long p3), .second, .val (.int p4), .val (.int q9), .val (.int q10), .val (.int q11), .val (.int q12), .val (.int q13), .val (.int q14), .val (.int q15), .val (.int q16), .val (.int n1), .val (.int n3), .val (.int n2), .val (.int n4), .val (.int m1), .val (.int m3), .val (.int m2), .val (.int m4), .val (.ref ao), .unset, .unset] [(.int p4), (.int m2), (.double dm1), (.ref ab), (.ref ab)]))
  refine own_Go.st (fun _ kt => XS.iconst X19.here hx rfl (hb hby at_177) kt) ?_
  show own_Go p e below _ (T19.setTop (mkF m 178 #[.val (.long p0), .second, .val (.long p1), .second, .val (.long p2), .second, .val (.long p3), .second, .val (.int p4), .val (.int q9), .val (.int q10), .val (.int q11), .val (.int q12), .val (.int q13), .val (.int q14), .val (.int q15), .val (.int q16), .val (.int n1), .val (.int n3), .val (.int n2), .val (.int n4), .val (.int m1), .val (.int m3), .val (.int m2), .val (.int m4), .val (.ref ao), .unset, .unset] [(.int (5 : Int32)), (.int p4), (.int m2), (.double dm1), (.ref ab), (.ref ab)]))
  obtain ⟨_, _, ⟨T20, L20, k20, n20⟩, -, X20, ⟨Lc20, hQ20, l20, y20, z20⟩, st20⟩ := Jvm.LawKit.callS X19 hx (y := (⟨"com/example/thicket/thicket/RectContainsPinLaw", "coord", "(III)D"⟩ : MethodName)) hown (mvT hZ (hw _ (List.mem_of_getElem? (i := 10) rfl))) (mvT hZ (hw _ (List.mem_of_getElem? (i := 11) rfl))) (mvT hZ (hw _ (List.mem_of_getElem? (i := 12) rfl))) (mvT hZ (hw _ (List.mem_of_getElem? (i := 13) rfl))) (by decide) (backOf (W := 4) (own_coord l Z a0 hw [] m2 p4 (5 : Int32) h17 n0 zz18 ) hZ (hw _ (List.mem_of_getElem? (i := 13) rfl)) (hw _ (List.mem_of_getElem? (i := 12) rfl)) (by decide) (by decide)) (g := (mkF m 178 #[.val (.long p0), .second, .val (.long p1), .second, .val (.long p2), .second, .val (.long p3), .second, .val (.int p4), .val (.int q9), .val (.int q10), .val (.int q11), .val (.int q12), .val (.int q13), .val (.int q14), .val (.int q15), .val (.int q16), .val (.int n1), .val (.int n3), .val (.int n2), .val (.int n4), .val (.int m1), .val (.int m3), .val (.int m2), .val (.int m4), .val (.ref ao), .unset, .unset] [(.int (5 : Int32)), (.int p4), (.int m2), (.double dm1), (.ref ab), (.ref ab)])) rfl (by rw [hml]; rfl) (argsL := [(.int m2), (.int p4), (.int (5 : Int32))]) (rest := [(.double dm1), (.ref ab), (.ref ab)]) (lenOf own_pd8 rfl) rfl (by show 2 * 0 + _ ≤ _; exact Nat.le_of_eq rfl) (hb hby at_178) (fun _ _ => ⟨rfl, hh19, (by decide : 2 + 0 ≤ _), (by decide : 8 + 0 ≤ _)⟩)
  dsimp only [Pt.U, Pt.locs, Pt.cells, Pt.slots] at X20 l20 y20 z20 st20 hQ20
  subst l20 y20 z20
  obtain ⟨dm2, rfl, N20q, lk_dm2, hh20⟩ := hQ20
  have N20 := Fr.app N19 N20q
  refine own_Go.st (fun _ kt => st20 _ kt) ?_
  show own_Go p e below _ (T20.setTop (mkF m 181 #[.val (.long p0), .second, .val (.long p1), .second, .val (.long p2), .second, .val (.long p3), .second, .val (.int p4), .val (.int q9), .val (.int q10), .val (.int q11), .val (.int q12), .val (.int q13), .val (.int q14), .val (.int q15), .val (.int q16), .val (.int n1), .val (.int n3), .val (.int n2), .val (.int n4), .val (.int m1), .val (.int m3), .val (.int m2), .val (.int m4), .val (.ref ao), .unset, .unset] [(.double dm2), (.double dm1), (.ref ab), (.ref ab)]))
  refine own_Go.st (fun _ kt => XS.iload X20.here hx rfl (hb hby at_181) rfl kt) ?_
  show own_Go p e below _ (T20.setTop (mkF m 183 #[.val (.long p0), .second, .val (.long p1), .second, .val (.long p2), .second, .val (.long p3), .second, .val (.int p4), .val (.int q9), .val (.int q10), .val (.int q11), .val (.int q12), .val (.int q13), .val (.int q14), .val (.int q15), .val (.int q16), .val (.int n1), .val (.int n3), .val (.int n2), .val (.int n4), .val (.int m1), .val (.int m3), .val (.int m2), .val (.int m4), .val (.ref ao), .unset, .unset] [(.int m3), (.double dm2), (.double dm1), (.ref ab), (.ref ab)]))
  refine own_Go.st (fun _ kt => XS.iload X20.here hx rfl (hb hby at_183) rfl kt) ?_
  show own_Go p e below _ (T20.setTop (mkF m 185 #[.val (.long p0), .second, .val (.long p1), .second, .val (.long p2), .second, .val (.long p3), .second, .val (.int p4), .val (.int q9), .val (.int q10), .val (.int q11), .val (.int q12), .val (.int q13), .val (.int q14), .val (.int q15), .val (.int q16), .val (.int n1), .val (.int n3), .val (.int n2), .val (.int n4), .val (.int m1), .val (.int m3), .val (.int m2), .val (.int m4), .val (.ref ao), .unset, .unset] [(.int p4), (.int m3), (.double dm2), (.double dm1), (.ref ab), (.ref ab)]))
  refine own_Go.st (fun _ kt => XS.bipush X20.here hx rfl (hb hby at_185) kt) ?_
  show own_Go p e below _ (T20.setTop (mkF m 187 #[.val (.long p0), .second, .val (.long p1), .second, .val (.long p2), .second, .val (.long p3), .second, .val (.int p4), .val (.int q9), .val (.int q10), .val (.int q11), .val (.int q12), .val (.int q13), .val (.int q14), .val (.int q15), .val (.int q16), .val (.int n1), .val (.int n3), .val (.int n2), .val (.int n4), .val (.int m1), .val (.int m3), .val (.int m2), .val (.int m4), .val (.ref ao), .unset, .unset] [(.int (6 : Int32)), (.int p4), (.int m3), (.double dm2), (.double dm1), (.ref ab), (.ref ab)]))
  obtain ⟨_, _, ⟨T21, L21, k21, n21⟩, -, X21, ⟨Lc21, hQ21, l21, y21, z21⟩, st21⟩ := Jvm.LawKit.callS X20 hx (y := (⟨"com/example/thicket/thicket/RectContainsPinLaw", "coord", "(III)D"⟩ : MethodName)) hown (mvT hZ (hw _ (List.mem_of_getElem? (i := 10) rfl))) (mvT hZ (hw _ (List.mem_of_getElem? (i := 11) rfl))) (mvT hZ (hw _ (List.mem_of_getElem? (i := 12) rfl))) (mvT hZ (hw _ (List.mem_of_getElem? (i := 13) rfl))) (by decide) (backOf (W := 6) (own_coord l Z a0 hw [] m3 p4 (6 : Int32) h17 n0 zz18 ) hZ (hw _ (List.mem_of_getElem? (i := 13) rfl)) (hw _ (List.mem_of_getElem? (i := 12) rfl)) (by decide) (by decide)) (g := (mkF m 187 #[.val (.long p0), .second, .val (.long p1), .second, .val (.long p2), .second, .val (.long p3), .second, .val (.int p4), .val (.int q9), .val (.int q10), .val (.int q11), .val (.int q12), .val (.int q13), .val (.int q14), .val (.int q15), .val (.int q16), .val (.int n1), .val (.int n3), .val (.int n2), .val (.int n4), .val (.int m1), .val (.int m3), .val (.int m2), .val (.int m4), .val (.ref ao), .unset, .unset] [(.int (6 : Int32)), (.int p4), (.int m3), (.double dm2), (.double dm1), (.ref ab), (.ref ab)])) rfl (by rw [hml]; rfl) (argsL := [(.int m3), (.int p4), (.int (6 : Int32))]) (rest := [(.double dm2), (.double dm1), (.ref ab), (.ref ab)]) (lenOf own_pd8 rfl) rfl (by show 2 * 0 + _ ≤ _; exact Nat.le_of_eq rfl) (hb hby at_187) (fun _ _ => ⟨rfl, hh20, (by decide : 2 + 0 ≤ _), (by decide : 8 + 0 ≤ _)⟩)
  dsimp only [Pt.U, Pt.locs, Pt.cells, Pt.slots] at X21 l21 y21 z21 st21 hQ21
  subst l21 y21 z21
  obtain ⟨dm3, rfl, N21q, lk_dm3, hh21⟩ := hQ21
  have N21 := Fr.app N20 N21q
  refine own_Go.st (fun _ kt => st21 _ kt) ?_
  show own_Go p e below _ (T21.setTop (mkF m 190 #[.val (.long p0), .second, .val (.long p1), .second, .val (.long p2), .second, .val (.long p3), .second, .val (.int p4), .val (.int q9), .val (.int q10), .val (.int q11), .val (.int q12), .val (.int q13), .val (.int q14), .val (.int q15), .val (.int q16), .val (.int n1), .val (.int n3), .val (.int n2), .val (.int n4), .val (.int m1), .val (.int m3), .val (.int m2), .val (.int m4), .val (.ref ao), .unset, .unset] [(.double dm3), (.double dm2), (.double dm1), (.ref ab), (.ref ab)]))
  refine own_Go.st (fun _ kt => XS.iload X21.here hx rfl (hb hby at_190) rfl kt) ?_
  show own_Go p e below _ (T21.setTop (mkF m 192 #[.val (.long p0), .second, .val (.long p1), .second, .val (.long p2), .second, .val (.long p3), .second, .val (.int p4), .val (.int q9), .val (.int q10), .val (.int q11), .val (.int q12), .val (.int q13), .val (.int q14), .val (.int q15), .val (.int q16), .val (.int n1), .val (.int n3), .val (.int n2), .val (.int n4), .val (.int m1), .val (.int m3), .val (.int m2), .val (.int m4), .val (.ref ao), .unset, .unset] [(.int m4), (.double dm3), (.double dm2), (.double dm1), (.ref ab), (.ref ab)]))
  refine own_Go.st (fun _ kt => XS.iload X21.here hx rfl (hb hby at_192) rfl kt) ?_
  show own_Go p e below _ (T21.setTop (mkF m 194 #[.val (.long p0), .second, .val (.long p1), .second, .val (.long p2), .second, .val (.long p3), .second, .val (.int p4), .val (.int q9), .val (.int q10), .val (.int q11), .val (.int q12), .val (.int q13), .val (.int q14), .val (.int q15), .val (.int q16), .val (.int n1), .val (.int n3), .val (.int n2), .val (.int n4), .val (.int m1), .val (.int m3), .val (.int m2), .val (.int m4), .val (.ref ao), .unset, .unset] [(.int p4), (.int m4), (.double dm3), (.double dm2), (.double dm1), (.ref ab), (.ref ab)]))
  refine own_Go.st (fun _ kt => XS.bipush X21.here hx rfl (hb hby at_194) kt) ?_
  show own_Go p e below _ (T21.setTop (mkF m 196 #[.val (.long p0), .second, .val (.long p1), .second, .val (.long p2), .second, .val (.long p3), .second, .val (.int p4), .val (.int q9), .val (.int q10), .val (.int q11), .val (.int q12), .val (.int q13), .val (.int q14), .val (.int q15), .val (.int q16), .val (.int n1), .val (.int n3), .val (.int n2), .val (.int n4), .val (.int m1), .val (.int m3), .val (.int m2), .val (.int m4), .val (.ref ao), .unset, .unset] [(.int (7 : Int32)), (.int p4), (.int m4), (.double dm3), (.double dm2), (.double dm1), (.ref ab), (.ref ab)]))
  obtain ⟨_, _, ⟨T22, L22, k22, n22⟩, -, X22, ⟨Lc22, hQ22, l22, y22, z22⟩, st22⟩ := Jvm.LawKit.callS X21 hx (y := (⟨"com/example/thicket/thicket/RectContainsPinLaw", "coord", "(III)D"⟩ : MethodName)) hown (mvT hZ (hw _ (List.mem_of_getElem? (i := 10) rfl))) (mvT hZ (hw _ (List.mem_of_getElem? (i := 11) rfl))) (mvT hZ (hw _ (List.mem_of_getElem? (i := 12) rfl))) (mvT hZ (hw _ (List.mem_of_getElem? (i := 13) rfl))) (by decide) (backOf (W := 8) (own_coord l Z a0 hw [] m4 p4 (7 : Int32) h17 n0 zz18 ) hZ (hw _ (List.mem_of_getElem? (i := 13) rfl)) (hw _ (List.mem_of_getElem? (i := 12) rfl)) (by decide) (by decide)) (g := (mkF m 196 #[.val (.long p0), .second, .val (.long p1), .second, .val (.long p2), .second, .val (.long p3), .second, .val (.int p4), .val (.int q9), .val (.int q10), .val (.int q11), .val (.int q12), .val (.int q13), .val (.int q14), .val (.int q15), .val (.int q16), .val (.int n1), .val (.int n3), .val (.int n2), .val (.int n4), .val (.int m1), .val (.int m3), .val (.int m2), .val (.int m4), .val (.ref ao), .unset, .unset] [(.int (7 : Int32)), (.int p4), (.int m4), (.double dm3), (.double dm2), (.double dm1), (.ref ab), (.ref ab)])) rfl (by rw [hml]; rfl) (argsL := [(.int m4), (.int p4), (.int (7 : Int32))]) (rest := [(.double dm3), (.double dm2), (.double dm1), (.ref ab), (.ref ab)]) (lenOf own_pd8 rfl) rfl (by show 2 * 0 + _ ≤ _; exact Nat.le_of_eq rfl) (hb hby at_196) (fun _ _ => ⟨rfl, hh21, (by decide : 2 + 0 ≤ _), (by decide : 8 + 0 ≤ _)⟩)
  dsimp only [Pt.U, Pt.locs, Pt.cells, Pt.slots] at X22 l22 y22 z22 st22 hQ22
  subst l22 y22 z22
  obtain ⟨dm4, rfl, N22q, lk_dm4, hh22⟩ := hQ22
  have N22 := Fr.app N21 N22q
  refine own_Go.st (fun _ kt => st22 _ kt) ?_
  show own_Go p e below _ (T22.setTop (mkF m 199 #[.val (.long p0), .second, .val (.long p1), .second, .val (.long p2), .second, .val (.long p3), .second, .val (.int p4), .val (.int q9), .val (.int q10), .val (.int q11), .val (.int q12), .val (.int q13), .val (.int q14), .val (.int q15), .val (.int q16), .val (.int n1), .val (.int n3), .val (.int n2), .val (.int n4), .val (.int m1), .val (.int m3), .val (.int m2), .val (.int m4), .val (.ref ao), .unset, .unset] [(.double dm4), (.double dm3), (.double dm2), (.double dm1), (.ref ab), (.ref ab)]))
  obtain ⟨_, _, ⟨T23, L23, k23, n23⟩, -, X23, ⟨Lc23, hQ23, l23, y23, z23⟩, st23⟩ := X22.specialBack hx (y := (⟨"com/example/thicket/thicket/Rect", "<init>", "(DDDD)V"⟩ : MethodName)) rfl hown (mvT hZ (hw _ (List.mem_of_getElem? (i := 15) rfl))) (mvT hZ (hw _ (List.mem_of_getElem? (i := 16) rfl))) (mvT hZ (hw _ (List.mem_of_getElem? (i := 17) rfl))) (by decide) (backOf (W := 1) (own_rinit l Z a0 hw [] ab dm1 dm2 dm3 dm4 m1.toInt64 m2.toInt64 m3.toInt64 m4.toInt64 h17 n0 zz18 A17 D17_minX D17_minY D17_maxX D17_maxY n0_ab lk_dm1 (own_i64 m1) lk_dm2 (own_i64 m2) lk_dm3 (own_i64 m3) lk_dm4 (own_i64 m4) h_m1 h_m2) hZ (hw _ (List.mem_of_getElem? (i := 17) rfl)) (hw _ (List.mem_of_getElem? (i := 9) rfl)) (by decide) (by decide)) (g := (mkF m 199 #[.val (.long p0), .second, .val (.long p1), .second, .val (.long p2), .second, .val (.long p3), .second, .val (.int p4), .val (.int q9), .val (.int q10), .val (.int q11), .val (.int q12), .val (.int q13), .val (.int q14), .val (.int q15), .val (.int q16), .val (.int n1), .val (.int n3), .val (.int n2), .val (.int n4), .val (.int m1), .val (.int m3), .val (.int m2), .val (.int m4), .val (.ref ao), .unset, .unset] [(.double dm4), (.double dm3), (.double dm2), (.double dm1), (.ref ab), (.ref ab)])) rfl (by rw [hml]; rfl) (Steps.refl _) (a := ab) (argsL := [(.double dm1), (.double dm2), (.double dm3), (.double dm4)]) (rest := [(.ref ab)]) (lenOf own_pd9 rfl) rfl (by show 2 * 0 + _ ≤ _; exact Nat.le_of_eq rfl) (hb hby at_199) (fun _ _ => ⟨rfl, hh22, (by decide : 2 + 0 ≤ _), (by decide : 8 + 0 ≤ _)⟩)
  dsimp only [Pt.U, Pt.locs, Pt.cells, Pt.slots] at X23 l23 y23 z23 st23 hQ23
  subst l23 y23 z23
  obtain ⟨rfl, N23q, EO23, my1, my2, my3, my4, km1, km2, km3, km4, F23_1, F23_2, F23_3, F23_4, KO23⟩ := hQ23
  have N23 := Fr.app N22 N23q
  refine own_Go.st (fun _ kt => st23.trans kt) ?_
  have zz24 : n0 ≤ Array.size T23.heap := Nat.le_trans zz18 KO23.1
  show own_Go p e below _ (T23.setTop (mkF m 202 #[.val (.long p0), .second, .val (.long p1), .second, .val (.long p2), .second, .val (.long p3), .second, .val (.int p4), .val (.int q9), .val (.int q10), .val (.int q11), .val (.int q12), .val (.int q13), .val (.int q14), .val (.int q15), .val (.int q16), .val (.int n1), .val (.int n3), .val (.int n2), .val (.int n4), .val (.int m1), .val (.int m3), .val (.int m2), .val (.int m4), .val (.ref ao), .unset, .unset] [(.ref ab)]))
  refine own_Go.st (fun _ kt => XS.astore X23.here hx rfl (hb hby at_202) rfl rfl (l' := #[.val (.long p0), .second, .val (.long p1), .second, .val (.long p2), .second, .val (.long p3), .second, .val (.int p4), .val (.int q9), .val (.int q10), .val (.int q11), .val (.int q12), .val (.int q13), .val (.int q14), .val (.int q15), .val (.int q16), .val (.int n1), .val (.int n3), .val (.int n2), .val (.int n4), .val (.int m1), .val (.int m3), .val (.int m2), .val (.int m4), .val (.ref ao), .val (.ref ab), .unset]) rfl kt) ?_
  show own_Go p e below _ (T23.setTop (mkF m 204 #[.val (.long p0), .second, .val (.long p1), .second, .val (.long p2), .second, .val (.long p3), .second, .val (.int p4), .val (.int q9), .val (.int q10), .val (.int q11), .val (.int q12), .val (.int q13), .val (.int q14), .val (.int q15), .val (.int q16), .val (.int n1), .val (.int n3), .val (.int n2), .val (.int n4), .val (.int m1), .val (.int m3), .val (.int m2), .val (.int m4), .val (.ref ao), .val (.ref ab), .unset] []))
  refine own_Go.st (fun _ kt => XS.iload X23.here hx rfl (hb hby at_204) rfl kt) ?_
  show own_Go p e below _ (T23.setTop (mkF m 206 #[.val (.long p0), .second, .val (.long p1), .second, .val (.long p2), .second, .val (.long p3), .second, .val (.int p4), .val (.int q9), .val (.int q10), .val (.int q11), .val (.int q12), .val (.int q13), .val (.int q14), .val (.int q15), .val (.int q16), .val (.int n1), .val (.int n3), .val (.int n2), .val (.int n4), .val (.int m1), .val (.int m3), .val (.int m2), .val (.int m4), .val (.ref ao), .val (.ref ab), .unset] [(.int n1)]))
  refine own_Go.st (fun _ kt => XS.iload X23.here hx rfl (hb hby at_206) rfl kt) ?_
  show own_Go p e below _ (T23.setTop (mkF m 208 #[.val (.long p0), .second, .val (.long p1), .second, .val (.long p2), .second, .val (.long p3), .second, .val (.int p4), .val (.int q9), .val (.int q10), .val (.int q11), .val (.int q12), .val (.int q13), .val (.int q14), .val (.int q15), .val (.int q16), .val (.int n1), .val (.int n3), .val (.int n2), .val (.int n4), .val (.int m1), .val (.int m3), .val (.int m2), .val (.int m4), .val (.ref ao), .val (.ref ab), .unset] [(.int m1), (.int n1)]))
  have J239 : ∀ (T25 : State) (lc25 : List Loc) (X25 : Stand p l e room_1 s m #[(.long p0), (.long p1), (.long p2), (.long p3), (.int p4)] below meth c T25 lc25 2 8) (e25 : T25.heap = T23.heap) (N25 : Fr n0 lc25) (ex : Int32) (hh : own_cv n1.toInt64 n2.toInt64 n3.toInt64 n4.toInt64 m1.toInt64 m2.toInt64 m3.toInt64 m4.toInt64 = ex), own_Go p e below (fun o U' => ∃ v L, o = .returned v ∧ own_Q_own_law Z p0 p1 p2 p3 p4 h0 n0 v U'.heap L ∧ FrameEnd s o U' L room_1.cells room_1.slots) (T25.setTop (mkF m 239 #[.val (.long p0), .second, .val (.long p1), .second, .val (.long p2), .second, .val (.long p3), .second, .val (.int p4), .val (.int q9), .val (.int q10), .val (.int q11), .val (.int q12), .val (.int q13), .val (.int q14), .val (.int q15), .val (.int q16), .val (.int n1), .val (.int n3), .val (.int n2), .val (.int n4), .val (.int m1), .val (.int m3), .val (.int m2), .val (.int m4), .val (.ref ao), .val (.ref ab), .val (.int ex)] [])) := by
    intro T25 lc25 X25 e25 N25 ex hh
    show own_Go p e below _ (T25.setTop (mkF m 239 #[.val (.long p0), .second, .val (.long p1), .second, .val (.long p2), .second, .val (.long p3), .second, .val (.int p4), .val (.int q9), .val (.int q10), .val (.int q11), .val (.int q12), .val (.int q13), .val (.int q14), .val (.int q15), .val (.int q16), .val (.int n1), .val (.int n3), .val (.int n2), .val (.int n4), .val (.int m1), .val (.int m3), .val (.int m2), .val (.int m4), .val (.ref ao), .val (.ref ab), .val (.int ex)] []))
    refine own_Go.st (fun _ kt => XS.aload X25.here hx rfl (hb hby at_239) rfl rfl kt) ?_
    show own_Go p e below _ (T25.setTop (mkF m 241 #[.val (.long p0), .second, .val (.long p1), .second, .val (.long p2), .second, .val (.long p3), .second, .val (.int p4), .val (.int q9), .val (.int q10), .val (.int q11), .val (.int q12), .val (.int q13), .val (.int q14), .val (.int q15), .val (.int q16), .val (.int n1), .val (.int n3), .val (.int n2), .val (.int n4), .val (.int m1), .val (.int m3), .val (.int m2), .val (.int m4), .val (.ref ao), .val (.ref ab), .val (.int ex)] [(.ref ao)]))
    refine own_Go.st (fun _ kt => XS.aload X25.here hx rfl (hb hby at_241) rfl rfl kt) ?_
    show own_Go p e below _ (T25.setTop (mkF m 243 #[.val (.long p0), .second, .val (.long p1), .second, .val (.long p2), .second, .val (.long p3), .second, .val (.int p4), .val (.int q9), .val (.int q10), .val (.int q11), .val (.int q12), .val (.int q13), .val (.int q14), .val (.int q15), .val (.int q16), .val (.int n1), .val (.int n3), .val (.int n2), .val (.int n4), .val (.int m1), .val (.int m3), .val (.int m2), .val (.int m4), .val (.ref ao), .val (.ref ab), .val (.int ex)] [(.ref ab), (.ref ao)]))
    have f26 := ((EO15.ext E17).keep KO23)
    have f27 := ((F15_1.ext E17).keep KO23 (ninS ne_ao_ab nin0))
    have f28 := ((F15_2.ext E17).keep KO23 (ninS ne_ao_ab nin0))
    have f29 := ((F15_3.ext E17).keep KO23 (ninS ne_ao_ab nin0))
    have f30 := ((F15_4.ext E17).keep KO23 (ninS ne_ao_ab nin0))
    obtain ⟨cq31, kq31, q31a, q31b, q31c⟩ := isOf hZ e25 f26
    obtain ⟨_, _, ⟨T31, L31, k31, n31⟩, -, X31, ⟨Lc31, hQ31, l31, y31, z31⟩, st31⟩ := X25.virtualBack hx (y := (⟨"com/example/thicket/thicket/Rect", "contains", "(Lcom/example/thicket/thicket/Box;)Z"⟩ : MethodName)) (z := (⟨"com/example/thicket/thicket/Rect", "contains", "(Lcom/example/thicket/thicket/Box;)Z"⟩ : MethodName)) hown (mvT hZ (hw _ (List.mem_of_getElem? (i := 42) rfl))) (mvT hZ (hw _ (List.mem_of_getElem? (i := 43) rfl))) (notFace_of_selects (args := #[]) (mvT hZ (hw _ (List.mem_of_getElem? (i := 45) rfl)))) (mvT hZ (hw _ (List.mem_of_getElem? (i := 45) rfl))) (mvT hZ (hw _ (List.mem_of_getElem? (i := 44) rfl))) (by decide) (backOf (W := 0) (own_containsB l Z a0 hw [] ao ab ny1 ny2 ny3 ny4 my1 my2 my3 my4 n1.toInt64 n2.toInt64 n3.toInt64 n4.toInt64 m1.toInt64 m2.toInt64 m3.toInt64 m4.toInt64 T23.heap n0 zz24 f26 EO23 f27 F23_1 f28 F23_2 f29 F23_3 f30 F23_4 kn1 km1 (own_i64 n1) (own_i64 m1) kn2 km2 (own_i64 n2) (own_i64 m2) kn3 km3 (own_i64 n3) (own_i64 m3) kn4 km4 (own_i64 n4) (own_i64 m4)) hZ (hw _ (List.mem_of_getElem? (i := 46) rfl)) (hw _ (List.mem_of_getElem? (i := 9) rfl)) (by decide) (by decide)) q31a q31c (g := (mkF m 243 #[.val (.long p0), .second, .val (.long p1), .second, .val (.long p2), .second, .val (.long p3), .second, .val (.int p4), .val (.int q9), .val (.int q10), .val (.int q11), .val (.int q12), .val (.int q13), .val (.int q14), .val (.int q15), .val (.int q16), .val (.int n1), .val (.int n3), .val (.int n2), .val (.int n4), .val (.int m1), .val (.int m3), .val (.int m2), .val (.int m4), .val (.ref ao), .val (.ref ab), .val (.int ex)] [(.ref ab), (.ref ao)])) rfl (by rw [hml]; rfl) (Steps.refl _) (argsL := [(.ref ab)]) (rest := []) (lenOf own_pd10 rfl) rfl (by show 2 * 0 + _ ≤ _; exact Nat.le_of_eq rfl) (hb hby at_243) (fun _ _ => ⟨rfl, e25, (by decide : 2 + 0 ≤ _), (by decide : 8 + 0 ≤ _)⟩)
    dsimp only [Pt.U, Pt.locs, Pt.cells, Pt.slots] at X31 l31 y31 z31 st31 hQ31
    subst l31 y31 z31
    obtain ⟨rfl, N31q, hh31⟩ := hQ31
    have N31 := Fr.app N25 N31q
    refine own_Go.st (fun _ kt => st31.trans kt) ?_
    show own_Go p e below _ (T31.setTop (mkF m 246 #[.val (.long p0), .second, .val (.long p1), .second, .val (.long p2), .second, .val (.long p3), .second, .val (.int p4), .val (.int q9), .val (.int q10), .val (.int q11), .val (.int q12), .val (.int q13), .val (.int q14), .val (.int q15), .val (.int q16), .val (.int n1), .val (.int n3), .val (.int n2), .val (.int n4), .val (.int m1), .val (.int m3), .val (.int m2), .val (.int m4), .val (.ref ao), .val (.ref ab), .val (.int ex)] [(.int (own_cv n1.toInt64 n2.toInt64 n3.toInt64 n4.toInt64 m1.toInt64 m2.toInt64 m3.toInt64 m4.toInt64))]))
    refine own_Go.st (fun _ kt => XS.iload X31.here hx rfl (hb hby at_246) rfl kt) ?_
    show own_Go p e below _ (T31.setTop (mkF m 248 #[.val (.long p0), .second, .val (.long p1), .second, .val (.long p2), .second, .val (.long p3), .second, .val (.int p4), .val (.int q9), .val (.int q10), .val (.int q11), .val (.int q12), .val (.int q13), .val (.int q14), .val (.int q15), .val (.int q16), .val (.int n1), .val (.int n3), .val (.int n2), .val (.int n4), .val (.int m1), .val (.int m3), .val (.int m2), .val (.int m4), .val (.ref ao), .val (.ref ab), .val (.int ex)] [(.int ex), (.int (own_cv n1.toInt64 n2.toInt64 n3.toInt64 n4.toInt64 m1.toInt64 m2.toInt64 m3.toInt64 m4.toInt64))]))
    refine own_Go.st (fun _ kt => XS.icmpNo X31.here hx rfl (hb hby at_248) rfl (teq hh).2 kt) ?_
    show own_Go p e below _ (T31.setTop (mkF m 251 #[.val (.long p0), .second, .val (.long p1), .second, .val (.long p2), .second, .val (.long p3), .second, .val (.int p4), .val (.int q9), .val (.int q10), .val (.int q11), .val (.int q12), .val (.int q13), .val (.int q14), .val (.int q15), .val (.int q16), .val (.int n1), .val (.int n3), .val (.int n2), .val (.int n4), .val (.int m1), .val (.int m3), .val (.int m2), .val (.int m4), .val (.ref ao), .val (.ref ab), .val (.int ex)] []))
    refine own_Go.st (fun _ kt => XS.iconst X31.here hx rfl (hb hby at_251) kt) ?_
    show own_Go p e below _ (T31.setTop (mkF m 252 #[.val (.long p0), .second, .val (.long p1), .second, .val (.long p2), .second, .val (.long p3), .second, .val (.int p4), .val (.int q9), .val (.int q10), .val (.int q11), .val (.int q12), .val (.int q13), .val (.int q14), .val (.int q15), .val (.int q16), .val (.int n1), .val (.int n3), .val (.int n2), .val (.int n4), .val (.int m1), .val (.int m3), .val (.int m2), .val (.int m4), .val (.ref ao), .val (.ref ab), .val (.int ex)] [(.int (1 : Int32))]))
    refine own_Go.st (fun _ kt => XS.goto X31.here hx rfl (pc0 := 252) (pc' := 256) rfl (hb hby at_252) (by decide) (by decide) kt) ?_
    show own_Go p e below _ (T31.setTop (mkF m 256 #[.val (.long p0), .second, .val (.long p1), .second, .val (.long p2), .second, .val (.long p3), .second, .val (.int p4), .val (.int q9), .val (.int q10), .val (.int q11), .val (.int q12), .val (.int q13), .val (.int q14), .val (.int q15), .val (.int q16), .val (.int n1), .val (.int n3), .val (.int n2), .val (.int n4), .val (.int m1), .val (.int m3), .val (.int m2), .val (.int m4), .val (.ref ao), .val (.ref ab), .val (.int ex)] [(.int (1 : Int32))]))
    exact own_retZ X31 hx Bd.notSynchronized Bd.returns (Or.inr rfl) (hb hby at_256) (by decide) (by decide) ⟨rfl, N31⟩
  by_cases hq0 : m1 < n1
  · refine own_Go.st (fun _ kt => XS.icmpYes X23.here hx rfl (pc0 := 208) (pc' := 236) rfl (hb hby at_208) rfl (tlt hq0).2.2.1 (by decide) (by decide) kt) ?_
    show own_Go p e below _ (T23.setTop (mkF m 236 #[.val (.long p0), .second, .val (.long p1), .second, .val (.long p2), .second, .val (.long p3), .second, .val (.int p4), .val (.int q9), .val (.int q10), .val (.int q11), .val (.int q12), .val (.int q13), .val (.int q14), .val (.int q15), .val (.int q16), .val (.int n1), .val (.int n3), .val (.int n2), .val (.int n4), .val (.int m1), .val (.int m3), .val (.int m2), .val (.int m4), .val (.ref ao), .val (.ref ab), .unset] []))
    refine own_Go.st (fun _ kt => XS.iconst X23.here hx rfl (hb hby at_236) kt) ?_
    show own_Go p e below _ (T23.setTop (mkF m 237 #[.val (.long p0), .second, .val (.long p1), .second, .val (.long p2), .second, .val (.long p3), .second, .val (.int p4), .val (.int q9), .val (.int q10), .val (.int q11), .val (.int q12), .val (.int q13), .val (.int q14), .val (.int q15), .val (.int q16), .val (.int n1), .val (.int n3), .val (.int n2), .val (.int n4), .val (.int m1), .val (.int m3), .val (.int m2), .val (.int m4), .val (.ref ao), .val (.ref ab), .unset] [(.int (0 : Int32))]))
    refine own_Go.st (fun _ kt => XS.istore X23.here hx rfl (hb hby at_237) rfl (l' := #[.val (.long p0), .second, .val (.long p1), .second, .val (.long p2), .second, .val (.long p3), .second, .val (.int p4), .val (.int q9), .val (.int q10), .val (.int q11), .val (.int q12), .val (.int q13), .val (.int q14), .val (.int q15), .val (.int q16), .val (.int n1), .val (.int n3), .val (.int n2), .val (.int n4), .val (.int m1), .val (.int m3), .val (.int m2), .val (.int m4), .val (.ref ao), .val (.ref ab), .val (.int (0 : Int32))]) rfl kt) ?_
    show own_Go p e below _ (T23.setTop (mkF m 239 #[.val (.long p0), .second, .val (.long p1), .second, .val (.long p2), .second, .val (.long p3), .second, .val (.int p4), .val (.int q9), .val (.int q10), .val (.int q11), .val (.int q12), .val (.int q13), .val (.int q14), .val (.int q15), .val (.int q16), .val (.int n1), .val (.int n3), .val (.int n2), .val (.int n4), .val (.int m1), .val (.int m3), .val (.int m2), .val (.int m4), .val (.ref ao), .val (.ref ab), .val (.int (0 : Int32))] []))
    exact J239 _ _ X23 rfl N23 _ (by simp only [own_cv, own_lt64, if_pos hq0])
  · refine own_Go.st (fun _ kt => XS.icmpNo X23.here hx rfl (hb hby at_208) rfl (flt hq0).2.2.1 kt) ?_
    show own_Go p e below _ (T23.setTop (mkF m 211 #[.val (.long p0), .second, .val (.long p1), .second, .val (.long p2), .second, .val (.long p3), .second, .val (.int p4), .val (.int q9), .val (.int q10), .val (.int q11), .val (.int q12), .val (.int q13), .val (.int q14), .val (.int q15), .val (.int q16), .val (.int n1), .val (.int n3), .val (.int n2), .val (.int n4), .val (.int m1), .val (.int m3), .val (.int m2), .val (.int m4), .val (.ref ao), .val (.ref ab), .unset] []))
    refine own_Go.st (fun _ kt => XS.iload X23.here hx rfl (hb hby at_211) rfl kt) ?_
    show own_Go p e below _ (T23.setTop (mkF m 213 #[.val (.long p0), .second, .val (.long p1), .second, .val (.long p2), .second, .val (.long p3), .second, .val (.int p4), .val (.int q9), .val (.int q10), .val (.int q11), .val (.int q12), .val (.int q13), .val (.int q14), .val (.int q15), .val (.int q16), .val (.int n1), .val (.int n3), .val (.int n2), .val (.int n4), .val (.int m1), .val (.int m3), .val (.int m2), .val (.int m4), .val (.ref ao), .val (.ref ab), .unset] [(.int m3)]))
    refine own_Go.st (fun _ kt => XS.iload X23.here hx rfl (hb hby at_213) rfl kt) ?_
    show own_Go p e below _ (T23.setTop (mkF m 215 #[.val (.long p0), .second, .val (.long p1), .second, .val (.long p2), .second, .val (.long p3), .second, .val (.int p4), .val (.int q9), .val (.int q10), .val (.int q11), .val (.int q12), .val (.int q13), .val (.int q14), .val (.int q15), .val (.int q16), .val (.int n1), .val (.int n3), .val (.int n2), .val (.int n4), .val (.int m1), .val (.int m3), .val (.int m2), .val (.int m4), .val (.ref ao), .val (.ref ab), .unset] [(.int n3), (.int m3)]))
    by_cases hq1 : n3 < m3
    · refine own_Go.st (fun _ kt => XS.icmpYes X23.here hx rfl (pc0 := 215) (pc' := 236) rfl (hb hby at_215) rfl (tlt hq1).2.2.1 (by decide) (by decide) kt) ?_
      show own_Go p e below _ (T23.setTop (mkF m 236 #[.val (.long p0), .second, .val (.long p1), .second, .val (.long p2), .second, .val (.long p3), .second, .val (.int p4), .val (.int q9), .val (.int q10), .val (.int q11), .val (.int q12), .val (.int q13), .val (.int q14), .val (.int q15), .val (.int q16), .val (.int n1), .val (.int n3), .val (.int n2), .val (.int n4), .val (.int m1), .val (.int m3), .val (.int m2), .val (.int m4), .val (.ref ao), .val (.ref ab), .unset] []))
      refine own_Go.st (fun _ kt => XS.iconst X23.here hx rfl (hb hby at_236) kt) ?_
      show own_Go p e below _ (T23.setTop (mkF m 237 #[.val (.long p0), .second, .val (.long p1), .second, .val (.long p2), .second, .val (.long p3), .second, .val (.int p4), .val (.int q9), .val (.int q10), .val (.int q11), .val (.int q12), .val (.int q13), .val (.int q14), .val (.int q15), .val (.int q16), .val (.int n1), .val (.int n3), .val (.int n2), .val (.int n4), .val (.int m1), .val (.int m3), .val (.int m2), .val (.int m4), .val (.ref ao), .val (.ref ab), .unset] [(.int (0 : Int32))]))
      refine own_Go.st (fun _ kt => XS.istore X23.here hx rfl (hb hby at_237) rfl (l' := #[.val (.long p0), .second, .val (.long p1), .second, .val (.long p2), .second, .val (.long p3), .second, .val (.int p4), .val (.int q9), .val (.int q10), .val (.int q11), .val (.int q12), .val (.int q13), .val (.int q14), .val (.int q15), .val (.int q16), .val (.int n1), .val (.int n3), .val (.int n2), .val (.int n4), .val (.int m1), .val (.int m3), .val (.int m2), .val (.int m4), .val (.ref ao), .val (.ref ab), .val (.int (0 : Int32))]) rfl kt) ?_
      show own_Go p e below _ (T23.setTop (mkF m 239 #[.val (.long p0), .second, .val (.long p1), .second, .val (.long p2), .second, .val (.long p3), .second, .val (.int p4), .val (.int q9), .val (.int q10), .val (.int q11), .val (.int q12), .val (.int q13), .val (.int q14), .val (.int q15), .val (.int q16), .val (.int n1), .val (.int n3), .val (.int n2), .val (.int n4), .val (.int m1), .val (.int m3), .val (.int m2), .val (.int m4), .val (.ref ao), .val (.ref ab), .val (.int (0 : Int32))] []))
      exact J239 _ _ X23 rfl N23 _ (by simp only [own_cv, own_lt64, if_neg hq0, if_pos hq1])
    · refine own_Go.st (fun _ kt => XS.icmpNo X23.here hx rfl (hb hby at_215) rfl (flt hq1).2.2.1 kt) ?_
      show own_Go p e below _ (T23.setTop (mkF m 218 #[.val (.long p0), .second, .val (.long p1), .second, .val (.long p2), .second, .val (.long p3), .second, .val (.int p4), .val (.int q9), .val (.int q10), .val (.int q11), .val (.int q12), .val (.int q13), .val (.int q14), .val (.int q15), .val (.int q16), .val (.int n1), .val (.int n3), .val (.int n2), .val (.int n4), .val (.int m1), .val (.int m3), .val (.int m2), .val (.int m4), .val (.ref ao), .val (.ref ab), .unset] []))
      refine own_Go.st (fun _ kt => XS.iload X23.here hx rfl (hb hby at_218) rfl kt) ?_
      show own_Go p e below _ (T23.setTop (mkF m 220 #[.val (.long p0), .second, .val (.long p1), .second, .val (.long p2), .second, .val (.long p3), .second, .val (.int p4), .val (.int q9), .val (.int q10), .val (.int q11), .val (.int q12), .val (.int q13), .val (.int q14), .val (.int q15), .val (.int q16), .val (.int n1), .val (.int n3), .val (.int n2), .val (.int n4), .val (.int m1), .val (.int m3), .val (.int m2), .val (.int m4), .val (.ref ao), .val (.ref ab), .unset] [(.int n2)]))
      refine own_Go.st (fun _ kt => XS.iload X23.here hx rfl (hb hby at_220) rfl kt) ?_
      show own_Go p e below _ (T23.setTop (mkF m 222 #[.val (.long p0), .second, .val (.long p1), .second, .val (.long p2), .second, .val (.long p3), .second, .val (.int p4), .val (.int q9), .val (.int q10), .val (.int q11), .val (.int q12), .val (.int q13), .val (.int q14), .val (.int q15), .val (.int q16), .val (.int n1), .val (.int n3), .val (.int n2), .val (.int n4), .val (.int m1), .val (.int m3), .val (.int m2), .val (.int m4), .val (.ref ao), .val (.ref ab), .unset] [(.int m2), (.int n2)]))
      by_cases hq2 : m2 < n2
      · refine own_Go.st (fun _ kt => XS.icmpYes X23.here hx rfl (pc0 := 222) (pc' := 236) rfl (hb hby at_222) rfl (tlt hq2).2.2.1 (by decide) (by decide) kt) ?_
        show own_Go p e below _ (T23.setTop (mkF m 236 #[.val (.long p0), .second, .val (.long p1), .second, .val (.long p2), .second, .val (.long p3), .second, .val (.int p4), .val (.int q9), .val (.int q10), .val (.int q11), .val (.int q12), .val (.int q13), .val (.int q14), .val (.int q15), .val (.int q16), .val (.int n1), .val (.int n3), .val (.int n2), .val (.int n4), .val (.int m1), .val (.int m3), .val (.int m2), .val (.int m4), .val (.ref ao), .val (.ref ab), .unset] []))
        refine own_Go.st (fun _ kt => XS.iconst X23.here hx rfl (hb hby at_236) kt) ?_
        show own_Go p e below _ (T23.setTop (mkF m 237 #[.val (.long p0), .second, .val (.long p1), .second, .val (.long p2), .second, .val (.long p3), .second, .val (.int p4), .val (.int q9), .val (.int q10), .val (.int q11), .val (.int q12), .val (.int q13), .val (.int q14), .val (.int q15), .val (.int q16), .val (.int n1), .val (.int n3), .val (.int n2), .val (.int n4), .val (.int m1), .val (.int m3), .val (.int m2), .val (.int m4), .val (.ref ao), .val (.ref ab), .unset] [(.int (0 : Int32))]))
        refine own_Go.st (fun _ kt => XS.istore X23.here hx rfl (hb hby at_237) rfl (l' := #[.val (.long p0), .second, .val (.long p1), .second, .val (.long p2), .second, .val (.long p3), .second, .val (.int p4), .val (.int q9), .val (.int q10), .val (.int q11), .val (.int q12), .val (.int q13), .val (.int q14), .val (.int q15), .val (.int q16), .val (.int n1), .val (.int n3), .val (.int n2), .val (.int n4), .val (.int m1), .val (.int m3), .val (.int m2), .val (.int m4), .val (.ref ao), .val (.ref ab), .val (.int (0 : Int32))]) rfl kt) ?_
        show own_Go p e below _ (T23.setTop (mkF m 239 #[.val (.long p0), .second, .val (.long p1), .second, .val (.long p2), .second, .val (.long p3), .second, .val (.int p4), .val (.int q9), .val (.int q10), .val (.int q11), .val (.int q12), .val (.int q13), .val (.int q14), .val (.int q15), .val (.int q16), .val (.int n1), .val (.int n3), .val (.int n2), .val (.int n4), .val (.int m1), .val (.int m3), .val (.int m2), .val (.int m4), .val (.ref ao), .val (.ref ab), .val (.int (0 : Int32))] []))
        exact J239 _ _ X23 rfl N23 _ (by simp only [own_cv, own_lt64, if_neg hq0, if_neg hq1, if_pos hq2])
      · refine own_Go.st (fun _ kt => XS.icmpNo X23.here hx rfl (hb hby at_222) rfl (flt hq2).2.2.1 kt) ?_
        show own_Go p e below _ (T23.setTop (mkF m 225 #[.val (.long p0), .second, .val (.long p1), .second, .val (.long p2), .second, .val (.long p3), .second, .val (.int p4), .val (.int q9), .val (.int q10), .val (.int q11), .val (.int q12), .val (.int q13), .val (.int q14), .val (.int q15), .val (.int q16), .val (.int n1), .val (.int n3), .val (.int n2), .val (.int n4), .val (.int m1), .val (.int m3), .val (.int m2), .val (.int m4), .val (.ref ao), .val (.ref ab), .unset] []))
        refine own_Go.st (fun _ kt => XS.iload X23.here hx rfl (hb hby at_225) rfl kt) ?_
        show own_Go p e below _ (T23.setTop (mkF m 227 #[.val (.long p0), .second, .val (.long p1), .second, .val (.long p2), .second, .val (.long p3), .second, .val (.int p4), .val (.int q9), .val (.int q10), .val (.int q11), .val (.int q12), .val (.int q13), .val (.int q14), .val (.int q15), .val (.int q16), .val (.int n1), .val (.int n3), .val (.int n2), .val (.int n4), .val (.int m1), .val (.int m3), .val (.int m2), .val (.int m4), .val (.ref ao), .val (.ref ab), .unset] [(.int m4)]))
        refine own_Go.st (fun _ kt => XS.iload X23.here hx rfl (hb hby at_227) rfl kt) ?_
        show own_Go p e below _ (T23.setTop (mkF m 229 #[.val (.long p0), .second, .val (.long p1), .second, .val (.long p2), .second, .val (.long p3), .second, .val (.int p4), .val (.int q9), .val (.int q10), .val (.int q11), .val (.int q12), .val (.int q13), .val (.int q14), .val (.int q15), .val (.int q16), .val (.int n1), .val (.int n3), .val (.int n2), .val (.int n4), .val (.int m1), .val (.int m3), .val (.int m2), .val (.int m4), .val (.ref ao), .val (.ref ab), .unset] [(.int n4), (.int m4)]))
        by_cases hq3 : n4 < m4
        · refine own_Go.st (fun _ kt => XS.icmpYes X23.here hx rfl (pc0 := 229) (pc' := 236) rfl (hb hby at_229) rfl (tlt hq3).2.2.1 (by decide) (by decide) kt) ?_
          show own_Go p e below _ (T23.setTop (mkF m 236 #[.val (.long p0), .second, .val (.long p1), .second, .val (.long p2), .second, .val (.long p3), .second, .val (.int p4), .val (.int q9), .val (.int q10), .val (.int q11), .val (.int q12), .val (.int q13), .val (.int q14), .val (.int q15), .val (.int q16), .val (.int n1), .val (.int n3), .val (.int n2), .val (.int n4), .val (.int m1), .val (.int m3), .val (.int m2), .val (.int m4), .val (.ref ao), .val (.ref ab), .unset] []))
          refine own_Go.st (fun _ kt => XS.iconst X23.here hx rfl (hb hby at_236) kt) ?_
          show own_Go p e below _ (T23.setTop (mkF m 237 #[.val (.long p0), .second, .val (.long p1), .second, .val (.long p2), .second, .val (.long p3), .second, .val (.int p4), .val (.int q9), .val (.int q10), .val (.int q11), .val (.int q12), .val (.int q13), .val (.int q14), .val (.int q15), .val (.int q16), .val (.int n1), .val (.int n3), .val (.int n2), .val (.int n4), .val (.int m1), .val (.int m3), .val (.int m2), .val (.int m4), .val (.ref ao), .val (.ref ab), .unset] [(.int (0 : Int32))]))
          refine own_Go.st (fun _ kt => XS.istore X23.here hx rfl (hb hby at_237) rfl (l' := #[.val (.long p0), .second, .val (.long p1), .second, .val (.long p2), .second, .val (.long p3), .second, .val (.int p4), .val (.int q9), .val (.int q10), .val (.int q11), .val (.int q12), .val (.int q13), .val (.int q14), .val (.int q15), .val (.int q16), .val (.int n1), .val (.int n3), .val (.int n2), .val (.int n4), .val (.int m1), .val (.int m3), .val (.int m2), .val (.int m4), .val (.ref ao), .val (.ref ab), .val (.int (0 : Int32))]) rfl kt) ?_
          show own_Go p e below _ (T23.setTop (mkF m 239 #[.val (.long p0), .second, .val (.long p1), .second, .val (.long p2), .second, .val (.long p3), .second, .val (.int p4), .val (.int q9), .val (.int q10), .val (.int q11), .val (.int q12), .val (.int q13), .val (.int q14), .val (.int q15), .val (.int q16), .val (.int n1), .val (.int n3), .val (.int n2), .val (.int n4), .val (.int m1), .val (.int m3), .val (.int m2), .val (.int m4), .val (.ref ao), .val (.ref ab), .val (.int (0 : Int32))] []))
          exact J239 _ _ X23 rfl N23 _ (by simp only [own_cv, own_lt64, if_neg hq0, if_neg hq1, if_neg hq2, if_pos hq3])
        · refine own_Go.st (fun _ kt => XS.icmpNo X23.here hx rfl (hb hby at_229) rfl (flt hq3).2.2.1 kt) ?_
          show own_Go p e below _ (T23.setTop (mkF m 232 #[.val (.long p0), .second, .val (.long p1), .second, .val (.long p2), .second, .val (.long p3), .second, .val (.int p4), .val (.int q9), .val (.int q10), .val (.int q11), .val (.int q12), .val (.int q13), .val (.int q14), .val (.int q15), .val (.int q16), .val (.int n1), .val (.int n3), .val (.int n2), .val (.int n4), .val (.int m1), .val (.int m3), .val (.int m2), .val (.int m4), .val (.ref ao), .val (.ref ab), .unset] []))
          refine own_Go.st (fun _ kt => XS.iconst X23.here hx rfl (hb hby at_232) kt) ?_
          show own_Go p e below _ (T23.setTop (mkF m 233 #[.val (.long p0), .second, .val (.long p1), .second, .val (.long p2), .second, .val (.long p3), .second, .val (.int p4), .val (.int q9), .val (.int q10), .val (.int q11), .val (.int q12), .val (.int q13), .val (.int q14), .val (.int q15), .val (.int q16), .val (.int n1), .val (.int n3), .val (.int n2), .val (.int n4), .val (.int m1), .val (.int m3), .val (.int m2), .val (.int m4), .val (.ref ao), .val (.ref ab), .unset] [(.int (1 : Int32))]))
          refine own_Go.st (fun _ kt => XS.goto X23.here hx rfl (pc0 := 233) (pc' := 237) rfl (hb hby at_233) (by decide) (by decide) kt) ?_
          show own_Go p e below _ (T23.setTop (mkF m 237 #[.val (.long p0), .second, .val (.long p1), .second, .val (.long p2), .second, .val (.long p3), .second, .val (.int p4), .val (.int q9), .val (.int q10), .val (.int q11), .val (.int q12), .val (.int q13), .val (.int q14), .val (.int q15), .val (.int q16), .val (.int n1), .val (.int n3), .val (.int n2), .val (.int n4), .val (.int m1), .val (.int m3), .val (.int m2), .val (.int m4), .val (.ref ao), .val (.ref ab), .unset] [(.int (1 : Int32))]))
          refine own_Go.st (fun _ kt => XS.istore X23.here hx rfl (hb hby at_237) rfl (l' := #[.val (.long p0), .second, .val (.long p1), .second, .val (.long p2), .second, .val (.long p3), .second, .val (.int p4), .val (.int q9), .val (.int q10), .val (.int q11), .val (.int q12), .val (.int q13), .val (.int q14), .val (.int q15), .val (.int q16), .val (.int n1), .val (.int n3), .val (.int n2), .val (.int n4), .val (.int m1), .val (.int m3), .val (.int m2), .val (.int m4), .val (.ref ao), .val (.ref ab), .val (.int (1 : Int32))]) rfl kt) ?_
          show own_Go p e below _ (T23.setTop (mkF m 239 #[.val (.long p0), .second, .val (.long p1), .second, .val (.long p2), .second, .val (.long p3), .second, .val (.int p4), .val (.int q9), .val (.int q10), .val (.int q11), .val (.int q12), .val (.int q13), .val (.int q14), .val (.int q15), .val (.int q16), .val (.int n1), .val (.int n3), .val (.int n2), .val (.int n4), .val (.int m1), .val (.int m3), .val (.int m2), .val (.int m4), .val (.ref ao), .val (.ref ab), .val (.int (1 : Int32))] []))
          exact J239 _ _ X23 rfl N23 _ (by simp only [own_cv, own_lt64, if_neg hq0, if_neg hq1, if_neg hq2, if_neg hq3])
set_option maxRecDepth 65536 in
set_option maxHeartbeats 40000000 in
theorem own_comes_1 {Post : Tables → Env → Array Value → State → Outcome → State → Prop} (hpost : ∀ tb e args s v u, (limb_1_1.after args s (.returned v) u = true ∧ limb_1_2.after args s (.returned v) u = true ∧ True) → FrameEnd s (.returned v) u (Jvm.fieldLocs frame_1_writes args s ++ Jvm.arrayLocs frame_1_arrays args s ++ Jvm.staticLocs frame_1_statics s) 16 128 → Post tb e args s (.returned v) u) :
    ArmFor flags0 classFile x code maxLocals ret World_1 tables_1 room_1 Calls_1 rest_1 Pre_1 Post := by
  intro l hfl _ _ p e ha hc hk s m args below hf hA hF happ hP
  obtain ⟨hcalls, hrest, hpre⟩ := hP
  obtain ⟨-, -, -, hnamed, -, -, -, hat⟩ := (Spec.applies_iff hf).mp happ
  obtain ⟨hg, hn⟩ := and_e (Cond.before_iff.mp (show (Jvm.Cond.and given_1 narrow_1).before args s = true from hpre))
  obtain ⟨hg0, hg1⟩ := and_e hg
  obtain ⟨ha0, hb0⟩ := and_e hg1
  obtain ⟨ha1, hb1⟩ := and_e hb0
  obtain ⟨ha2, hb2⟩ := and_e hb1
  obtain ⟨ha3, hb3⟩ := and_e hb2
  obtain ⟨w0, w1, w2, w3, w4, rfl⟩ : ∃ w0 w1 w2 w3 w4 : Value, args = #[w0, w1, w2, w3, w4] := by
    have hs : args.size = 5 := by simpa [Cond.value, given_1] using hg0
    obtain ⟨L⟩ := args
    match L, hs with
    | [w0, w1, w2, w3, w4], _ => exact ⟨w0, w1, w2, w3, w4, rfl⟩
  have hw := fun d (hd : d ∈ tables_1) => atoms_spec (ws := Jvm.Cond.code x code maxLocals ret :: tables_1) hat d (List.mem_cons_of_mem _ hd)
  have hfit : Fit s := fun {y c} hc i hi => by
    obtain ⟨ha, rfl⟩ := Array.getElem?_eq_some_iff.mp hc
    have q := List.all_eq_true.mp ((Array.all_eq_true_iff_forall_mem.mp hF) _ (Array.getElem_mem ha)) i (List.mem_range.mpr hi)
    simpa [Array.getElem?_eq_getElem hi] using q
  obtain ⟨p0, ep0⟩ := isL_v ha0
  obtain rfl : w0 = (.long p0) := Option.some.inj ep0
  obtain ⟨p1, ep1⟩ := isL_v ha1
  obtain rfl : w1 = (.long p1) := Option.some.inj ep1
  obtain ⟨p2, ep2⟩ := isL_v ha2
  obtain rfl : w2 = (.long p2) := Option.some.inj ep2
  obtain ⟨p3, ep3⟩ := isL_v ha3
  obtain rfl : w3 = (.long p3) := Option.some.inj ep3
  obtain ⟨p4, ep4⟩ := is_v hb3
  obtain rfl : w4 = (.int p4) := Option.some.inj ep4

  obtain ⟨n, o, h1, h2, h3, _, L, rfl, ⟨rfl, N⟩, hq⟩ := own_law l s _ hw tables_1 p0 p1 p2 p3 p4  s.heap s.heap.size (Nat.le_refl _)  p e ha hc hk s m _ below hf ((Spec.applies_iff_loose hf).mp happ).1 ⟨rfl, State.Warmed39.refl s, rfl⟩ trivial
  refine ⟨n, _, h1, h2, h3, hpost _ _ _ _ _ _ ⟨Cond.after_iff.mpr rfl, Cond.after_iff.mpr (eq_i res_at (Term.int_eval (1)) rfl), trivial⟩ ⟨hq.1, hq.2.1, (hq.2.2.sift fun y hy => Or.inr (N y hy)).mono (by decide) (by decide)⟩⟩
theorem main_1_1 : Claimed_1_1 := own_comes_1 fun _ _ _ _ _ _ h hF => ⟨h.1, hF⟩
theorem main_1_2 : Claimed_1_2 := own_comes_1 fun _ _ _ _ _ _ h hF => ⟨h.2.1, hF⟩

end Jvm.Pilot.@@N@@
namespace Jvm.Pilot.@@N@@
open Jvm Jvm.ClassFile Sem Op Lib Jvm.Free Jvm.Stand Jvm.Pilot.@@N@@.Jvm.D
/-! MADE BY PROGRAM (witnessworld.py) out of the Statement's table words and the real class files: 17 classes; the members and pool entries that the words name. The judged class is class 1, her method 2. -/
namespace start1
open Jvm.ClassFile
def u (s : String) : CpInfo := .utf8 (stringToUtf16 s)
/-- a pool by its gaps: so many unusable entries, then the entry; so many at the end -/
def gap : Nat → List CpInfo → List CpInfo
  | 0, r => r
  | n + 1, r => .unusable :: gap n r
def poolList (es : List (Nat × CpInfo)) (last : Nat) : List CpInfo := es.foldr (fun e r => gap e.1 (e.2 :: r)) (gap last [])
def pool (es : List (Nat × CpInfo)) (last : Nat) : Array CpInfo := ⟨poolList es last⟩
def fileOf (pool : Array CpInfo) (this : Nat) (attrs : Array Attribute := #[]) (ms : Array MethodInfo := #[]) (fl : Nat := 33) (sup : Nat := 0) (ifs : Array Nat := #[]) (fds : Array FieldInfo := #[]) : ClassFile where
  minorVersion := 0
  majorVersion := 65
  constantPool := pool
  accessFlags := fl
  thisClass := this
  superClass := sup
  interfaces := ifs
  fields := fds
  methods := ms
  attributes := attrs
def plain (name : String) (sup : Option ClassId) : Class where
  name := name
  kind := .ordinary
  loader := none
  accessFlags := 33
  super := sup
  interfaces := #[]
  cf := none
  fields := #[]
  methods := #[]
  instanceTypes := #[]
  staticTypes := #[]
  resolved := #[]
  callSites := []
  init := .initialized
  statics := none
  mirror := none

def pool0 : Array CpInfo := pool [(5, u "<init>"), (0, u "()V"), (1, .class_ 10), (1, u "java/lang/Object")] 113

def k0c0 : Code := { maxStack := 0, maxLocals := 1, code := object_method_1_code, exceptionTable := #[], attributes := #[] }
def k0m0 : Method := { name := "<init>", desc := "()V", sig := { parameters := [], returnType := none }, accessFlags := 1, code := some k0c0 }
/-- java/lang/Object -/
def k0 : Class := { plain "java/lang/Object" none with
  accessFlags := 33
  interfaces := #[]
  cf := some (fileOf pool0 8 #[] #[{ accessFlags := 1, nameIndex := 5, descriptorIndex := 6, attributes := #[] }] 33 0 #[] #[])
  fields := #[]
  methods := #[k0m0]
  instanceTypes := #[]
  staticTypes := #[]
  resolved := Array.replicate 124 none
  statics := none }

def pool1 : Array CpInfo := pool [(2, .class_ 4), (1, u "java/lang/Object"), (0, u "<init>"), (0, u "()V"), (0, .double 9223372036854775808), (1, .methodref 10 11), (0, .class_ 12), (0, .nameAndType 13 14), (0, u "java/lang/Math"), (0, u "min"), (0, u "(II)I"), (0, .methodref 10 16), (0, .nameAndType 17 14), (0, u "max"), (0, .class_ 19), (0, u "com/example/thicket/thicket/Rect"), (0, .methodref 21 22), (0, .class_ 23), (0, .nameAndType 24 25), (0, u "com/example/thicket/thicket/RectContainsPinLaw"), (0, u "coord"), (0, u "(III)D"), (0, .methodref 18 27), (0, .nameAndType 5 28), (0, u "(DDDD)V"), (0, .methodref 18 30), (0, .nameAndType 31 32), (0, u "contains"), (0, u "(Lcom/example/thicket/thicket/Box;)Z"), (3, u "law"), (0, u "(JJJJI)Z")] 4

def k1m0 : Method := { name := "<init>", desc := "()V", sig := { parameters := [], returnType := none }, accessFlags := 1, code := none }
def k1c1 : Code := { maxStack := 2, maxLocals := 3, code := method_2_code, exceptionTable := #[], attributes := #[] }
def k1m1 : Method := { name := "coord", desc := "(III)D", sig := { parameters := [.int, .int, .int], returnType := some .double }, accessFlags := 10, code := some k1c1 }
def k1c2 : Code := { maxStack := 11, maxLocals := 28, code := code, exceptionTable := #[], attributes := #[] }
def k1m2 : Method := { name := "law", desc := "(JJJJI)Z", sig := { parameters := [.long, .long, .long, .long, .int], returnType := some .boolean }, accessFlags := 9, code := some k1c2 }
/-- com/example/thicket/thicket/RectContainsPinLaw -/
def k1 : Class := { plain "com/example/thicket/thicket/RectContainsPinLaw" (some 0) with
  accessFlags := 49
  interfaces := #[]
  cf := some (fileOf pool1 21 #[] #[{ accessFlags := 1, nameIndex := 5, descriptorIndex := 6, attributes := #[] }, { accessFlags := 10, nameIndex := 24, descriptorIndex := 25, attributes := #[] }, { accessFlags := 9, nameIndex := 36, descriptorIndex := 37, attributes := #[] }] 49 2 #[] #[])
  fields := #[]
  methods := #[k1m0, k1m1, k1m2]
  instanceTypes := #[]
  staticTypes := #[]
  resolved := Array.replicate 42 none
  statics := none }

def pool2 : Array CpInfo := pool [(1, .class_ 2), (0, u "java/lang/Math"), (1, .class_ 6), (1, u "java/lang/Object"), (0, u "<init>"), (0, u "()V"), (5, u "(D)D"), (83, .class_ 100), (1, u "java/lang/Math$RandomNumberGeneratorHolder"), (23, u "abs"), (47, u "negativeZeroFloatBits"), (0, u "J"), (2, u "negativeZeroDoubleBits"), (21, u "max"), (2, u "min"), (43, u "$assertionsDisabled"), (0, u "Z"), (88, u "(II)I"), (2, u "twoToTheDoubleScaleDown"), (0, u "D"), (4, u "twoToTheDoubleScaleUp"), (9, u "E"), (3, u "PI"), (2, u "TAU"), (2, u "DEGREES_TO_RADIANS"), (0, u "RADIANS_TO_DEGREES")] 94

def k2m0 : Method := { name := "<init>", desc := "()V", sig := { parameters := [], returnType := none }, accessFlags := 2, code := none }
def k2c1 : Code := { maxStack := 4, maxLocals := 2, code := jdk_29_method_64_code, exceptionTable := #[], attributes := #[] }
def k2m1 : Method := { name := "abs", desc := "(D)D", sig := { parameters := [.double], returnType := some .double }, accessFlags := 9, code := some k2c1 }
def k2c2 : Code := { maxStack := 2, maxLocals := 2, code := jdk_29_method_65_code, exceptionTable := #[], attributes := #[] }
def k2m2 : Method := { name := "max", desc := "(II)I", sig := { parameters := [.int, .int], returnType := some .int }, accessFlags := 9, code := some k2c2 }
def k2c3 : Code := { maxStack := 2, maxLocals := 2, code := jdk_29_method_69_code, exceptionTable := #[], attributes := #[] }
def k2m3 : Method := { name := "min", desc := "(II)I", sig := { parameters := [.int, .int], returnType := some .int }, accessFlags := 9, code := some k2c3 }
/-- java/lang/Math -/
def k2 : Class := { plain "java/lang/Math" (some 0) with
  accessFlags := 49
  interfaces := #[]
  cf := some (fileOf pool2 1 #[.nestMembers #[98]] #[{ accessFlags := 2, nameIndex := 7, descriptorIndex := 8, attributes := #[] }, { accessFlags := 9, nameIndex := 124, descriptorIndex := 14, attributes := #[] }, { accessFlags := 9, nameIndex := 198, descriptorIndex := 335, attributes := #[] }, { accessFlags := 9, nameIndex := 201, descriptorIndex := 335, attributes := #[] }] 49 4 #[] #[{ accessFlags := 25, nameIndex := 354, descriptorIndex := 339, attributes := #[] }, { accessFlags := 25, nameIndex := 358, descriptorIndex := 339, attributes := #[] }, { accessFlags := 25, nameIndex := 361, descriptorIndex := 339, attributes := #[] }, { accessFlags := 26, nameIndex := 364, descriptorIndex := 339, attributes := #[] }, { accessFlags := 26, nameIndex := 365, descriptorIndex := 339, attributes := #[] }, { accessFlags := 26, nameIndex := 172, descriptorIndex := 173, attributes := #[] }, { accessFlags := 26, nameIndex := 176, descriptorIndex := 173, attributes := #[] }, { accessFlags := 8, nameIndex := 344, descriptorIndex := 339, attributes := #[] }, { accessFlags := 8, nameIndex := 338, descriptorIndex := 339, attributes := #[] }, { accessFlags := 4120, nameIndex := 245, descriptorIndex := 246, attributes := #[] }])
  fields := #[{ name := "E", type := .double, accessFlags := 25, slot := 0, constantValue := 0 }, { name := "PI", type := .double, accessFlags := 25, slot := 1, constantValue := 0 }, { name := "TAU", type := .double, accessFlags := 25, slot := 2, constantValue := 0 }, { name := "DEGREES_TO_RADIANS", type := .double, accessFlags := 26, slot := 3, constantValue := 0 }, { name := "RADIANS_TO_DEGREES", type := .double, accessFlags := 26, slot := 4, constantValue := 0 }, { name := "negativeZeroFloatBits", type := .long, accessFlags := 26, slot := 5, constantValue := 0 }, { name := "negativeZeroDoubleBits", type := .long, accessFlags := 26, slot := 6, constantValue := 0 }, { name := "twoToTheDoubleScaleUp", type := .double, accessFlags := 8, slot := 7, constantValue := 0 }, { name := "twoToTheDoubleScaleDown", type := .double, accessFlags := 8, slot := 8, constantValue := 0 }, { name := "$assertionsDisabled", type := .boolean, accessFlags := 4120, slot := 9, constantValue := 0 }]
  methods := #[k2m0, k2m1, k2m2, k2m3]
  instanceTypes := #[]
  staticTypes := #[.double, .double, .double, .double, .double, .long, .long, .double, .double, .boolean]
  resolved := Array.replicate 460 none
  statics := none }

def pool3 : Array CpInfo := pool [(1, .methodref 2 3), (0, .class_ 4), (0, .nameAndType 5 6), (0, u "java/lang/Object"), (0, u "<init>"), (0, u "()V"), (0, .class_ 8), (0, u "java/lang/Record")] 13

def k3c0 : Code := { maxStack := 1, maxLocals := 1, code := jdk_30_method_1_code, exceptionTable := #[], attributes := #[] }
def k3m0 : Method := { name := "<init>", desc := "()V", sig := { parameters := [], returnType := none }, accessFlags := 4, code := some k3c0 }
/-- java/lang/Record -/
def k3 : Class := { plain "java/lang/Record" (some 0) with
  accessFlags := 1057
  interfaces := #[]
  cf := some (fileOf pool3 7 #[] #[{ accessFlags := 4, nameIndex := 5, descriptorIndex := 6, attributes := #[] }] 1057 2 #[] #[])
  fields := #[]
  methods := #[k3m0]
  instanceTypes := #[]
  staticTypes := #[]
  resolved := Array.replicate 22 none
  statics := none }

def pool4 : Array CpInfo := pool [(33, .class_ 34), (0, u "com/example/thicket/thicket/Box"), (0, .class_ 36), (0, u "java/lang/Object"), (0, u "MAX_DIMENSIONS"), (0, u "I")] 33

/-- com/example/thicket/thicket/Box -/
def k4 : Class := { plain "com/example/thicket/thicket/Box" (some 0) with
  accessFlags := 1537
  interfaces := #[]
  cf := some (fileOf pool4 33 #[] #[] 1537 35 #[] #[{ accessFlags := 25, nameIndex := 37, descriptorIndex := 38, attributes := #[] }])
  fields := #[{ name := "MAX_DIMENSIONS", type := .int, accessFlags := 25, slot := 0, constantValue := 0 }]
  methods := #[]
  instanceTypes := #[]
  staticTypes := #[.int]
  resolved := Array.replicate 72 none
  statics := none }

def pool5 : Array CpInfo := pool [(1, .methodref 2 3), (0, .class_ 4), (0, .nameAndType 5 6), (0, u "java/lang/Record"), (0, u "<init>"), (0, u "()V"), (0, .methodref 8 9), (0, .class_ 10), (0, .nameAndType 11 12), (0, u "java/lang/Double"), (0, u "isFinite"), (0, u "(D)Z"), (12, .methodref 8 26), (0, .nameAndType 27 28), (0, u "compare"), (0, u "(DD)I"), (0, .double 9223372036854775808), (1, .fieldref 32 33), (0, .class_ 34), (0, .nameAndType 35 36), (0, u "com/example/thicket/thicket/Rect"), (0, u "minX"), (0, u "D"), (0, .fieldref 32 38), (0, .nameAndType 39 36), (0, u "minY"), (0, .fieldref 32 41), (0, .nameAndType 42 36), (0, u "maxX"), (0, .fieldref 32 44), (0, .nameAndType 45 36), (0, u "maxY"), (6, .methodref 32 53), (0, .nameAndType 54 55), (0, u "alike"), (0, u "(Lcom/example/thicket/thicket/Box;)Lcom/example/thicket/thicket/Rect;"), (3, u "(Lcom/example/thicket/thicket/Rect;)Z"), (0, .methodref 32 61), (0, .nameAndType 62 59), (0, u "contains"), (22, u "(DDDD)V"), (10, .class_ 98), (1, u "com/example/thicket/thicket/Box"), (17, u "(Lcom/example/thicket/thicket/Box;)Z")] 46

def k5c0 : Code := { maxStack := 6, maxLocals := 9, code := prog_91_method_1_code, exceptionTable := #[], attributes := #[] }
def k5m0 : Method := { name := "<init>", desc := "(DDDD)V", sig := { parameters := [.double, .double, .double, .double], returnType := none }, accessFlags := 1, code := some k5c0 }
def k5c1 : Code := { maxStack := 2, maxLocals := 2, code := prog_91_method_6_code, exceptionTable := #[], attributes := #[] }
def k5m1 : Method := { name := "contains", desc := "(Lcom/example/thicket/thicket/Box;)Z", sig := { parameters := [(.object "com/example/thicket/thicket/Box")], returnType := some .boolean }, accessFlags := 1, code := some k5c1 }
def k5c2 : Code := { maxStack := 4, maxLocals := 2, code := prog_91_method_11_code, exceptionTable := #[], attributes := #[] }
def k5m2 : Method := { name := "contains", desc := "(Lcom/example/thicket/thicket/Rect;)Z", sig := { parameters := [(.object "com/example/thicket/thicket/Rect")], returnType := some .boolean }, accessFlags := 1, code := some k5c2 }
def k5c3 : Code := { maxStack := 2, maxLocals := 2, code := prog_91_method_22_code, exceptionTable := #[], attributes := #[] }
def k5m3 : Method := { name := "alike", desc := "(Lcom/example/thicket/thicket/Box;)Lcom/example/thicket/thicket/Rect;", sig := { parameters := [(.object "com/example/thicket/thicket/Box")], returnType := some (.object "com/example/thicket/thicket/Rect") }, accessFlags := 10, code := some k5c3 }
/-- com/example/thicket/thicket/Rect -/
def k5 : Class := { plain "com/example/thicket/thicket/Rect" (some 3) with
  accessFlags := 49
  interfaces := #[4]
  cf := some (fileOf pool5 32 #[] #[{ accessFlags := 1, nameIndex := 5, descriptorIndex := 85, attributes := #[] }, { accessFlags := 1, nameIndex := 62, descriptorIndex := 116, attributes := #[] }, { accessFlags := 1, nameIndex := 62, descriptorIndex := 59, attributes := #[] }, { accessFlags := 10, nameIndex := 54, descriptorIndex := 55, attributes := #[] }] 49 2 #[96] #[{ accessFlags := 18, nameIndex := 35, descriptorIndex := 36, attributes := #[] }, { accessFlags := 18, nameIndex := 39, descriptorIndex := 36, attributes := #[] }, { accessFlags := 18, nameIndex := 42, descriptorIndex := 36, attributes := #[] }, { accessFlags := 18, nameIndex := 45, descriptorIndex := 36, attributes := #[] }])
  fields := #[{ name := "minX", type := .double, accessFlags := 18, slot := 0, constantValue := 0 }, { name := "minY", type := .double, accessFlags := 18, slot := 1, constantValue := 0 }, { name := "maxX", type := .double, accessFlags := 18, slot := 2, constantValue := 0 }, { name := "maxY", type := .double, accessFlags := 18, slot := 3, constantValue := 0 }]
  methods := #[k5m0, k5m1, k5m2, k5m3]
  instanceTypes := #[.double, .double, .double, .double]
  staticTypes := #[]
  resolved := Array.replicate 163 none
  statics := none }

def pool6 : Array CpInfo := pool [(1, .class_ 2), (0, u "java/io/Serializable"), (0, .class_ 4), (0, u "java/lang/Object")] 2

/-- java/io/Serializable -/
def k6 : Class := { plain "java/io/Serializable" (some 0) with
  accessFlags := 1537
  interfaces := #[]
  cf := some (fileOf pool6 1 #[] #[] 1537 3 #[] #[])
  fields := #[]
  methods := #[]
  instanceTypes := #[]
  staticTypes := #[]
  resolved := Array.replicate 7 none
  statics := none }

def pool7 : Array CpInfo := pool [(2, .class_ 4), (1, u "java/lang/Object"), (0, u "<init>"), (0, u "()V"), (1, .class_ 10), (1, u "java/lang/Number"), (2, .class_ 14), (0, u "java/io/Serializable"), (0, u "serialVersionUID"), (0, u "J")] 20

def k7m0 : Method := { name := "<init>", desc := "()V", sig := { parameters := [], returnType := none }, accessFlags := 1, code := none }
/-- java/lang/Number -/
def k7 : Class := { plain "java/lang/Number" (some 0) with
  accessFlags := 1057
  interfaces := #[6]
  cf := some (fileOf pool7 8 #[] #[{ accessFlags := 1, nameIndex := 5, descriptorIndex := 6, attributes := #[] }] 1057 2 #[13] #[{ accessFlags := 26, nameIndex := 15, descriptorIndex := 16, attributes := #[] }])
  fields := #[{ name := "serialVersionUID", type := .long, accessFlags := 26, slot := 0, constantValue := 0 }]
  methods := #[k7m0]
  instanceTypes := #[]
  staticTypes := #[.long]
  resolved := Array.replicate 37 none
  statics := none }

def pool8 : Array CpInfo := pool [(1, .class_ 2), (0, u "java/lang/Comparable"), (0, .class_ 4), (0, u "java/lang/Object")] 7

/-- java/lang/Comparable -/
def k8 : Class := { plain "java/lang/Comparable" (some 0) with
  accessFlags := 1537
  interfaces := #[]
  cf := some (fileOf pool8 1 #[] #[] 1537 3 #[] #[])
  fields := #[]
  methods := #[]
  instanceTypes := #[]
  staticTypes := #[]
  resolved := Array.replicate 12 none
  statics := none }

def pool9 : Array CpInfo := pool [(1, .class_ 2), (0, u "java/lang/constant/Constable"), (0, .class_ 4), (0, u "java/lang/Object")] 6

/-- java/lang/constant/Constable -/
def k9 : Class := { plain "java/lang/constant/Constable" (some 0) with
  accessFlags := 1537
  interfaces := #[]
  cf := some (fileOf pool9 1 #[] #[] 1537 3 #[] #[])
  fields := #[]
  methods := #[]
  instanceTypes := #[]
  staticTypes := #[]
  resolved := Array.replicate 11 none
  statics := none }

def pool10 : Array CpInfo := pool [(1, .class_ 2), (0, u "java/lang/constant/ConstantDesc"), (0, .class_ 4), (0, u "java/lang/Object")] 32

/-- java/lang/constant/ConstantDesc -/
def k10 : Class := { plain "java/lang/constant/ConstantDesc" (some 0) with
  accessFlags := 1537
  interfaces := #[]
  cf := some (fileOf pool10 1 #[] #[] 1537 3 #[] #[])
  fields := #[]
  methods := #[]
  instanceTypes := #[]
  staticTypes := #[]
  resolved := Array.replicate 37 none
  statics := none }

def pool11 : Array CpInfo := pool [(1, .class_ 2), (0, u "java/lang/Double"), (10, u "isFinite"), (0, u "(D)Z"), (8, .class_ 25), (1, u "java/lang/Math"), (12, .methodref 23 39), (0, .nameAndType 40 41), (0, u "abs"), (0, u "(D)D"), (4, .methodref 1 47), (0, .nameAndType 48 49), (0, u "doubleToLongBits"), (0, u "(D)J"), (61, .double 9218868437227405311), (2, .class_ 116), (1, u "java/lang/Number"), (3, u "value"), (0, u "D"), (0, .methodref 1 123), (0, .nameAndType 124 14), (0, u "isNaN"), (9, .methodref 1 135), (0, .nameAndType 136 49), (0, u "doubleToRawLongBits"), (4, u "compare"), (0, u "(DD)I"), (30, u "TYPE"), (0, u "Ljava/lang/Class;"), (0, .class_ 176), (0, u "java/lang/Comparable"), (0, .class_ 178), (0, u "java/lang/constant/Constable"), (0, .class_ 180), (0, u "java/lang/constant/ConstantDesc"), (0, u "POSITIVE_INFINITY"), (3, u "NEGATIVE_INFINITY"), (2, u "NaN"), (2, u "MAX_VALUE"), (0, u "MIN_NORMAL"), (0, u "MIN_VALUE"), (2, u "SIZE"), (0, u "I"), (1, u "PRECISION"), (1, u "MAX_EXPONENT"), (1, u "MIN_EXPONENT"), (1, u "BYTES"), (3, u "serialVersionUID"), (0, u "J")] 79

def k11c0 : Code := { maxStack := 4, maxLocals := 2, code := jdk_117_method_6_code, exceptionTable := #[], attributes := #[] }
def k11m0 : Method := { name := "isNaN", desc := "(D)Z", sig := { parameters := [.double], returnType := some .boolean }, accessFlags := 9, code := some k11c0 }
def k11c1 : Code := { maxStack := 4, maxLocals := 2, code := jdk_117_method_8_code, exceptionTable := #[], attributes := #[] }
def k11m1 : Method := { name := "isFinite", desc := "(D)Z", sig := { parameters := [.double], returnType := some .boolean }, accessFlags := 9, code := some k11c1 }
def k11c2 : Code := { maxStack := 2, maxLocals := 2, code := jdk_117_method_23_code, exceptionTable := #[], attributes := #[] }
def k11m2 : Method := { name := "doubleToLongBits", desc := "(D)J", sig := { parameters := [.double], returnType := some .long }, accessFlags := 9, code := some k11c2 }
def k11m3 : Method := { name := "doubleToRawLongBits", desc := "(D)J", sig := { parameters := [.double], returnType := some .long }, accessFlags := 265, code := none }
def k11c4 : Code := { maxStack := 4, maxLocals := 8, code := jdk_117_method_27_code, exceptionTable := #[], attributes := #[] }
def k11m4 : Method := { name := "compare", desc := "(DD)I", sig := { parameters := [.double, .double], returnType := some .int }, accessFlags := 9, code := some k11c4 }
/-- java/lang/Double -/
def k11 : Class := { plain "java/lang/Double" (some 7) with
  accessFlags := 49
  interfaces := #[8, 9, 10]
  cf := some (fileOf pool11 1 #[] #[{ accessFlags := 9, nameIndex := 124, descriptorIndex := 14, attributes := #[] }, { accessFlags := 9, nameIndex := 13, descriptorIndex := 14, attributes := #[] }, { accessFlags := 9, nameIndex := 48, descriptorIndex := 49, attributes := #[] }, { accessFlags := 265, nameIndex := 136, descriptorIndex := 49, attributes := #[] }, { accessFlags := 9, nameIndex := 141, descriptorIndex := 142, attributes := #[] }] 49 114 #[175, 177, 179] #[{ accessFlags := 25, nameIndex := 181, descriptorIndex := 121, attributes := #[] }, { accessFlags := 25, nameIndex := 185, descriptorIndex := 121, attributes := #[] }, { accessFlags := 25, nameIndex := 188, descriptorIndex := 121, attributes := #[] }, { accessFlags := 25, nameIndex := 191, descriptorIndex := 121, attributes := #[] }, { accessFlags := 25, nameIndex := 192, descriptorIndex := 121, attributes := #[] }, { accessFlags := 25, nameIndex := 193, descriptorIndex := 121, attributes := #[] }, { accessFlags := 25, nameIndex := 196, descriptorIndex := 197, attributes := #[] }, { accessFlags := 25, nameIndex := 199, descriptorIndex := 197, attributes := #[] }, { accessFlags := 25, nameIndex := 201, descriptorIndex := 197, attributes := #[] }, { accessFlags := 25, nameIndex := 203, descriptorIndex := 197, attributes := #[] }, { accessFlags := 25, nameIndex := 205, descriptorIndex := 197, attributes := #[] }, { accessFlags := 25, nameIndex := 173, descriptorIndex := 174, attributes := #[] }, { accessFlags := 18, nameIndex := 120, descriptorIndex := 121, attributes := #[] }, { accessFlags := 26, nameIndex := 209, descriptorIndex := 210, attributes := #[] }])
  fields := #[{ name := "POSITIVE_INFINITY", type := .double, accessFlags := 25, slot := 0, constantValue := 0 }, { name := "NEGATIVE_INFINITY", type := .double, accessFlags := 25, slot := 1, constantValue := 0 }, { name := "NaN", type := .double, accessFlags := 25, slot := 2, constantValue := 0 }, { name := "MAX_VALUE", type := .double, accessFlags := 25, slot := 3, constantValue := 0 }, { name := "MIN_NORMAL", type := .double, accessFlags := 25, slot := 4, constantValue := 0 }, { name := "MIN_VALUE", type := .double, accessFlags := 25, slot := 5, constantValue := 0 }, { name := "SIZE", type := .int, accessFlags := 25, slot := 6, constantValue := 0 }, { name := "PRECISION", type := .int, accessFlags := 25, slot := 7, constantValue := 0 }, { name := "MAX_EXPONENT", type := .int, accessFlags := 25, slot := 8, constantValue := 0 }, { name := "MIN_EXPONENT", type := .int, accessFlags := 25, slot := 9, constantValue := 0 }, { name := "BYTES", type := .int, accessFlags := 25, slot := 10, constantValue := 0 }, { name := "TYPE", type := (.object "java/lang/Class"), accessFlags := 25, slot := 11, constantValue := 0 }, { name := "value", type := .double, accessFlags := 18, slot := 0, constantValue := 0 }, { name := "serialVersionUID", type := .long, accessFlags := 26, slot := 12, constantValue := 0 }]
  methods := #[k11m0, k11m1, k11m2, k11m3, k11m4]
  instanceTypes := #[.double]
  staticTypes := #[.double, .double, .double, .double, .double, .double, .int, .int, .int, .int, .int, (.object "java/lang/Class"), .long]
  resolved := Array.replicate 290 none
  statics := none }

def pool12 : Array CpInfo := pool [(1, u "java/lang/Cloneable"), (0, .class_ 1), (0, u "java/lang/Object"), (0, .class_ 3)] 3

/-- java/lang/Cloneable -/
def k12 : Class := { plain "java/lang/Cloneable" (some 0) with
  accessFlags := 1537
  interfaces := #[]
  cf := some (fileOf pool12 2 #[] #[] 1537 4 #[] #[])
  fields := #[]
  methods := #[]
  instanceTypes := #[]
  staticTypes := #[]
  resolved := Array.replicate 8 none
  statics := none }

/-- the primitive byte -/
def k13 : Class := { plain "byte" none with kind := .primitive 'B', accessFlags := 0x411 }
/-- [B -/
def k14 : Class := { plain "[B" (some 0) with kind := .array 13 .byte, interfaces := #[12, 6], accessFlags := 1041 }

/-- the primitive int -/
def k15 : Class := { plain "int" none with kind := .primitive 'I', accessFlags := 0x411 }
/-- [I -/
def k16 : Class := { plain "[I" (some 0) with kind := .array 15 .int, interfaces := #[12, 6], accessFlags := 1041 }

def heap : Heap := #[]
def classes : Array Class := #[k0, k1, k2, k3, k4, k5, k6, k7, k8, k9, k10, k11, k12, k13, k14, k15, k16]
def interned : List (Array UInt16 × Addr) := []
def slotsUsed : Nat := 0
def theMethod : MethodId := ⟨1, 2⟩
def args0 : Array Value := #[.long 5, .long 9, .long 7, .long 4, .int 3]
def aboutOver (below : List Frame) : State where
  vm := { classes := classes, interned := interned.toArray }
  heap := heap
  slotsUsed := slotsUsed
  threads := #[{ frames := .invoking theMethod args0 :: below }]
def below0 : List Frame := [.native { method := ⟨0, 0⟩, args := #[] }]
def about1 : State := aboutOver below0
def p0 : Program := .bare "" "" ""
def e0 : Env := launch0.env 0 0 0
theorem w_frames : about1.frames = Frame.invoking theMethod args0 :: below0 := rfl
set_option maxRecDepth 65536 in
theorem w_args : argsFit about1.vm theMethod args0 = true := by decide +kernel
set_option maxRecDepth 65536 in
theorem w_heap : heapFits about1 = true := by decide +kernel
set_option maxRecDepth 65536 in
theorem w_runnable : about1.curStatus? = some .runnable := by decide +kernel
set_option maxRecDepth 65536 in
theorem w_alone : about1.alone = true := by decide +kernel
set_option maxRecDepth 65536 in
theorem w_named : about1.methodNamed? x = some theMethod := by decide +kernel
set_option maxRecDepth 65536 in
theorem w_hears : about1.hears theMethod below0 = true := by decide +kernel
set_option maxRecDepth 65536 in
theorem w_ripe : about1.ripe theMethod args0 below0 = true := by decide +kernel
theorem w_running : about1.status = .running := rfl
set_option maxRecDepth 65536 in
theorem w_room : about1.hasRoom e0.platform room_1 = true :=
  launch0.hasRoom_least _ room_1 (by decide +kernel) (by decide +kernel) (by decide +kernel) (by decide +kernel) (by decide +kernel) (by decide +kernel)
theorem allAtoms_all (ts : List Jvm.Cond) (a : Array Jvm.Value) (st : Jvm.State) : (allAtoms ts).before a st = ts.all (fun c => c.before a st) := by
  induction ts with
  | nil => rfl
  | cons c t ih =>
    show (Jvm.Cond.and c (allAtoms t)).before a st = _
    rw [Jvm.Cond.before_and, ih, List.all_cons]
def words1 : List Jvm.Cond := Jvm.Cond.code x code maxLocals ret :: tables_1
/-- a 'code' word, met by the world's own term for the bytes: nothing is compared byte by byte -/
theorem code_word {y : MethodName} {bytes : ByteArray} {mx : Nat} {rt : Option FieldType} {a : Array Value} {s : State} {m : MethodId} {meth : Method} {c : Code} (h1 : s.methodNamed? y = some m) (h2 : s.vm.method? m = some meth) (h3 : meth.code = some c) (h4 : c.code = bytes)
    (h5 : (c.maxLocals == mx && c.exceptionTable.isEmpty && decide (c.maxStack ≤ mostOperands) && decide (meth.sig.returnType = rt) && !meth.locks && decide (parseMethodDescriptor y.desc = some meth.sig)) = true) : (Jvm.Cond.code y bytes mx rt).before a s = true := by
  simp only [Bool.and_eq_true, beq_iff_eq, Bool.not_eq_true', decide_eq_true_eq] at h5
  obtain ⟨⟨⟨⟨⟨g1, g2⟩, g3⟩, g4⟩, g5⟩, g6⟩ := h5
  simp [Cond.before, Cond.holds, Cond.value, h1, h2, h3, h4, g1, g2, g3, g4, g5, g6]
def isCode : Jvm.Cond → Bool
  | .code _ _ _ _ => true
  | _ => false
theorem all_split {L : List Jvm.Cond} {P : Jvm.Cond → Bool} (h1 : L.all (fun c => isCode c || P c) = true) (h2 : ∀ c ∈ L.filter isCode, P c = true) : L.all P = true := by
  refine List.all_eq_true.mpr fun c hc => ?_
  have h := List.all_eq_true.mp h1 c hc
  rcases Bool.eq_false_or_eq_true (isCode c) with hi | hi
  · exact h2 c (List.mem_filter.mpr ⟨hc, hi⟩)
  · simpa [hi] using h
set_option maxRecDepth 65536 in
theorem w_c0 : (Jvm.Cond.code x code maxLocals ret).before args0 about1 = true := code_word (m := ⟨1, 2⟩) (meth := k1m2) (c := k1c2) (by decide +kernel) rfl rfl rfl (by decide +kernel)
set_option maxRecDepth 65536 in
theorem w_c1 : (Jvm.Cond.code ({ cls := "java/lang/Math", name := "min", desc := "(II)I" } : Jvm.MethodName) jdk_29_method_69_code (2 : Nat) (Option.some Jvm.ClassFile.FieldType.int)).before args0 about1 = true := code_word (m := ⟨2, 3⟩) (meth := k2m3) (c := k2c3) (by decide +kernel) rfl rfl rfl (by decide +kernel)
set_option maxRecDepth 65536 in
theorem w_c2 : (Jvm.Cond.code ({ cls := "java/lang/Math", name := "max", desc := "(II)I" } : Jvm.MethodName) jdk_29_method_65_code (2 : Nat) (Option.some Jvm.ClassFile.FieldType.int)).before args0 about1 = true := code_word (m := ⟨2, 2⟩) (meth := k2m2) (c := k2c2) (by decide +kernel) rfl rfl rfl (by decide +kernel)
set_option maxRecDepth 65536 in
theorem w_c3 : (Jvm.Cond.code ({ cls := "com/example/thicket/thicket/RectContainsPinLaw", name := "coord", desc := "(III)D" } : Jvm.MethodName) method_2_code (3 : Nat) (Option.some Jvm.ClassFile.FieldType.double)).before args0 about1 = true := code_word (m := ⟨1, 1⟩) (meth := k1m1) (c := k1c1) (by decide +kernel) rfl rfl rfl (by decide +kernel)
set_option maxRecDepth 65536 in
theorem w_c4 : (Jvm.Cond.code ({ cls := "com/example/thicket/thicket/Rect", name := "<init>", desc := "(DDDD)V" } : Jvm.MethodName) prog_91_method_1_code (9 : Nat) (Option.none : Option Jvm.ClassFile.FieldType)).before args0 about1 = true := code_word (m := ⟨5, 0⟩) (meth := k5m0) (c := k5c0) (by decide +kernel) rfl rfl rfl (by decide +kernel)
set_option maxRecDepth 65536 in
theorem w_c5 : (Jvm.Cond.code ({ cls := "java/lang/Record", name := "<init>", desc := "()V" } : Jvm.MethodName) jdk_30_method_1_code (1 : Nat) (Option.none : Option Jvm.ClassFile.FieldType)).before args0 about1 = true := code_word (m := ⟨3, 0⟩) (meth := k3m0) (c := k3c0) (by decide +kernel) rfl rfl rfl (by decide +kernel)
set_option maxRecDepth 65536 in
theorem w_c6 : (Jvm.Cond.code ({ cls := "java/lang/Object", name := "<init>", desc := "()V" } : Jvm.MethodName) object_method_1_code (1 : Nat) (Option.none : Option Jvm.ClassFile.FieldType)).before args0 about1 = true := code_word (m := ⟨0, 0⟩) (meth := k0m0) (c := k0c0) (by decide +kernel) rfl rfl rfl (by decide +kernel)
set_option maxRecDepth 65536 in
theorem w_c7 : (Jvm.Cond.code ({ cls := "java/lang/Double", name := "isFinite", desc := "(D)Z" } : Jvm.MethodName) jdk_117_method_8_code (2 : Nat) (Option.some Jvm.ClassFile.FieldType.boolean)).before args0 about1 = true := code_word (m := ⟨11, 1⟩) (meth := k11m1) (c := k11c1) (by decide +kernel) rfl rfl rfl (by decide +kernel)
set_option maxRecDepth 65536 in
theorem w_c8 : (Jvm.Cond.code ({ cls := "java/lang/Math", name := "abs", desc := "(D)D" } : Jvm.MethodName) jdk_29_method_64_code (2 : Nat) (Option.some Jvm.ClassFile.FieldType.double)).before args0 about1 = true := code_word (m := ⟨2, 1⟩) (meth := k2m1) (c := k2c1) (by decide +kernel) rfl rfl rfl (by decide +kernel)
set_option maxRecDepth 65536 in
theorem w_c9 : (Jvm.Cond.code ({ cls := "com/example/thicket/thicket/Rect", name := "contains", desc := "(Lcom/example/thicket/thicket/Box;)Z" } : Jvm.MethodName) prog_91_method_6_code (2 : Nat) (Option.some Jvm.ClassFile.FieldType.boolean)).before args0 about1 = true := code_word (m := ⟨5, 1⟩) (meth := k5m1) (c := k5c1) (by decide +kernel) rfl rfl rfl (by decide +kernel)
set_option maxRecDepth 65536 in
theorem w_c10 : (Jvm.Cond.code ({ cls := "com/example/thicket/thicket/Rect", name := "alike", desc := "(Lcom/example/thicket/thicket/Box;)Lcom/example/thicket/thicket/Rect;" } : Jvm.MethodName) prog_91_method_22_code (2 : Nat) (Option.some (Jvm.ClassFile.FieldType.object "com/example/thicket/thicket/Rect"))).before args0 about1 = true := code_word (m := ⟨5, 3⟩) (meth := k5m3) (c := k5c3) (by decide +kernel) rfl rfl rfl (by decide +kernel)
set_option maxRecDepth 65536 in
theorem w_c11 : (Jvm.Cond.code ({ cls := "com/example/thicket/thicket/Rect", name := "contains", desc := "(Lcom/example/thicket/thicket/Rect;)Z" } : Jvm.MethodName) prog_91_method_11_code (2 : Nat) (Option.some Jvm.ClassFile.FieldType.boolean)).before args0 about1 = true := code_word (m := ⟨5, 2⟩) (meth := k5m2) (c := k5c2) (by decide +kernel) rfl rfl rfl (by decide +kernel)
set_option maxRecDepth 65536 in
theorem w_c12 : (Jvm.Cond.code ({ cls := "java/lang/Double", name := "compare", desc := "(DD)I" } : Jvm.MethodName) jdk_117_method_27_code (8 : Nat) (Option.some Jvm.ClassFile.FieldType.int)).before args0 about1 = true := code_word (m := ⟨11, 4⟩) (meth := k11m4) (c := k11c4) (by decide +kernel) rfl rfl rfl (by decide +kernel)
set_option maxRecDepth 65536 in
theorem w_c13 : (Jvm.Cond.code ({ cls := "java/lang/Double", name := "doubleToLongBits", desc := "(D)J" } : Jvm.MethodName) jdk_117_method_23_code (2 : Nat) (Option.some Jvm.ClassFile.FieldType.long)).before args0 about1 = true := code_word (m := ⟨11, 2⟩) (meth := k11m2) (c := k11c2) (by decide +kernel) rfl rfl rfl (by decide +kernel)
set_option maxRecDepth 65536 in
theorem w_c14 : (Jvm.Cond.code ({ cls := "java/lang/Double", name := "isNaN", desc := "(D)Z" } : Jvm.MethodName) jdk_117_method_6_code (2 : Nat) (Option.some Jvm.ClassFile.FieldType.boolean)).before args0 about1 = true := code_word (m := ⟨11, 0⟩) (meth := k11m0) (c := k11c0) (by decide +kernel) rfl rfl rfl (by decide +kernel)
def codes1 : List Jvm.Cond := [Jvm.Cond.code x code maxLocals ret, Jvm.Cond.code ({ cls := "java/lang/Math", name := "min", desc := "(II)I" } : Jvm.MethodName) jdk_29_method_69_code (2 : Nat) (Option.some Jvm.ClassFile.FieldType.int), Jvm.Cond.code ({ cls := "java/lang/Math", name := "max", desc := "(II)I" } : Jvm.MethodName) jdk_29_method_65_code (2 : Nat) (Option.some Jvm.ClassFile.FieldType.int), Jvm.Cond.code ({ cls := "com/example/thicket/thicket/RectContainsPinLaw", name := "coord", desc := "(III)D" } : Jvm.MethodName) method_2_code (3 : Nat) (Option.some Jvm.ClassFile.FieldType.double), Jvm.Cond.code ({ cls := "com/example/thicket/thicket/Rect", name := "<init>", desc := "(DDDD)V" } : Jvm.MethodName) prog_91_method_1_code (9 : Nat) (Option.none : Option Jvm.ClassFile.FieldType), Jvm.Cond.code ({ cls := "java/lang/Record", name := "<init>", desc := "()V" } : Jvm.MethodName) jdk_30_method_1_code (1 : Nat) (Option.none : Option Jvm.ClassFile.FieldType), Jvm.Cond.code ({ cls := "java/lang/Object", name := "<init>", desc := "()V" } : Jvm.MethodName) object_method_1_code (1 : Nat) (Option.none : Option Jvm.ClassFile.FieldType), Jvm.Cond.code ({ cls := "java/lang/Double", name := "isFinite", desc := "(D)Z" } : Jvm.MethodName) jdk_117_method_8_code (2 : Nat) (Option.some Jvm.ClassFile.FieldType.boolean), Jvm.Cond.code ({ cls := "java/lang/Math", name := "abs", desc := "(D)D" } : Jvm.MethodName) jdk_29_method_64_code (2 : Nat) (Option.some Jvm.ClassFile.FieldType.double), Jvm.Cond.code ({ cls := "com/example/thicket/thicket/Rect", name := "contains", desc := "(Lcom/example/thicket/thicket/Box;)Z" } : Jvm.MethodName) prog_91_method_6_code (2 : Nat) (Option.some Jvm.ClassFile.FieldType.boolean), Jvm.Cond.code ({ cls := "com/example/thicket/thicket/Rect", name := "alike", desc := "(Lcom/example/thicket/thicket/Box;)Lcom/example/thicket/thicket/Rect;" } : Jvm.MethodName) prog_91_method_22_code (2 : Nat) (Option.some (Jvm.ClassFile.FieldType.object "com/example/thicket/thicket/Rect")), Jvm.Cond.code ({ cls := "com/example/thicket/thicket/Rect", name := "contains", desc := "(Lcom/example/thicket/thicket/Rect;)Z" } : Jvm.MethodName) prog_91_method_11_code (2 : Nat) (Option.some Jvm.ClassFile.FieldType.boolean), Jvm.Cond.code ({ cls := "java/lang/Double", name := "compare", desc := "(DD)I" } : Jvm.MethodName) jdk_117_method_27_code (8 : Nat) (Option.some Jvm.ClassFile.FieldType.int), Jvm.Cond.code ({ cls := "java/lang/Double", name := "doubleToLongBits", desc := "(D)J" } : Jvm.MethodName) jdk_117_method_23_code (2 : Nat) (Option.some Jvm.ClassFile.FieldType.long), Jvm.Cond.code ({ cls := "java/lang/Double", name := "isNaN", desc := "(D)Z" } : Jvm.MethodName) jdk_117_method_6_code (2 : Nat) (Option.some Jvm.ClassFile.FieldType.boolean)]
set_option maxRecDepth 65536 in
theorem codes_eq : words1.filter isCode = codes1 := rfl
theorem w_codes : ∀ c ∈ words1.filter isCode, c.before args0 about1 = true := by
  rw [codes_eq]
  intro c hc
  simp only [codes1, List.mem_cons, List.not_mem_nil, or_false] at hc
  rcases hc with rfl | rfl | rfl | rfl | rfl | rfl | rfl | rfl | rfl | rfl | rfl | rfl | rfl | rfl | rfl
  · exact w_c0
  · exact w_c1
  · exact w_c2
  · exact w_c3
  · exact w_c4
  · exact w_c5
  · exact w_c6
  · exact w_c7
  · exact w_c8
  · exact w_c9
  · exact w_c10
  · exact w_c11
  · exact w_c12
  · exact w_c13
  · exact w_c14
set_option maxRecDepth 65536 in
theorem w_t1 : (words1.take 24).all (fun c => isCode c || c.before args0 about1) = true := by decide +kernel
set_option maxRecDepth 65536 in
theorem w_t2 : ((words1.drop 24).take 24).all (fun c => isCode c || c.before args0 about1) = true := by decide +kernel
set_option maxRecDepth 65536 in
theorem w_t3 : ((words1.drop 24).drop 24).all (fun c => isCode c || c.before args0 about1) = true := by decide +kernel
theorem w_tables : (allAtoms (Jvm.Cond.code x code maxLocals ret :: tables_1)).before args0 about1 = true := by
  rw [allAtoms_all]
  show words1.all (fun c => c.before args0 about1) = true
  refine all_split ?_ w_codes
  rw [← List.take_append_drop 24 words1, List.all_append, w_t1, ← List.take_append_drop 24 (words1.drop 24), List.all_append, w_t2, w_t3]
  rfl
set_option maxRecDepth 65536 in
theorem w_case : (Jvm.Cond.and given_1 narrow_1).before args0 about1 = true := by decide +kernel
theorem w_applies : (headSpec (Jvm.Cond.code x code maxLocals ret :: tables_1) room_1).applies x e0.platform about1 = true :=
  (Spec.applies_iff w_frames).mpr ⟨w_running, w_runnable, w_alone, w_named, w_hears, w_ripe, w_room, w_tables⟩
theorem atStart : AtStart classFile x code maxLocals ret World_1 tables_1 room_1 Calls_1 rest_1 Pre_1 launch0 p0 e0 about1 theMethod args0 below0 :=
  ⟨lists_1, trivial, launch0.admits_env _ _ _, launch0.least_env, fairChoices_fair.cas, fairChoices_fair.clock, w_frames, w_args, w_heap, w_applies, trivial, trivial, w_case⟩
end start1
theorem witness_1 : WitnessClaimed_1 := ⟨start1.p0, start1.e0, start1.about1, start1.theMethod, start1.args0, start1.below0, start1.atStart⟩
end Jvm.Pilot.@@N@@
