import JvmDerived
import JvmDerived.Pilot.@@N@@Statement
import JvmDerived.Pilot.@@N@@Code
set_option linter.unusedVariables false
set_option linter.unusedSimpArgs false
namespace Jvm.RoadKit
open Sem ClassFile Op Lib Jvm.Stand Jvm.Free Jvm.LawKit
section Own
/-- from here the run comes to an end of which P holds -/
def own_Go (p : Program) (e : Env) (below : List Frame) (P : Outcome → State → Prop) (t : State) : Prop :=
  ∃ s₂ o, Steps p.tables e below t s₂ ∧ s₂.status = .running ∧ Ended s₂ below o ∧ P o s₂
variable {p : Program} {l : Launch} {e : Env} {R : Room} {s : State} {m : MethodId} {args : Array Value} {below : List Frame} {meth : Method} {c : Code} {T : State} {locs : List Loc} {cells slots : Nat}
theorem own_Go.st {P : Outcome → State → Prop} {t t' : State} (h : ∀ target, Steps p.tables e below t' target → Steps p.tables e below t target) (k : own_Go p e below P t') : own_Go p e below P t := by
  obtain ⟨a, b, h1, h2⟩ := k
  exact ⟨a, b, h _ h1, h2⟩
variable {C N : Nat} {Q : Option Value → Heap → List Loc → Prop}
theorem own_ret {v : Option Value} {g : JFrame} (X : Stand p l e R s m args below meth c T locs cells slots) (hlk : meth.locks = false) (hv : meth.sig.returnType = none → v = none)
    (hl : ∀ fs : List Frame, (∀ (f : JFrame) (acts : List Action), f.method = m → f.locked = none → f.entered = [] → (doReturn e (T.setTop f) acts v).1 = T.setFrames fs) → Steps p.tables e below (T.setTop g) (T.setFrames fs))
    (hc : cells ≤ C) (hn : slots ≤ N) (q : Q v T.heap locs) : own_Go p e below (fun o U' => ∃ v L, o = .returned v ∧ Q v U'.heap L ∧ FrameEnd s o U' L C N) (T.setTop g) := by
  obtain ⟨fs, hr, hrun, hended, hW, hsame⟩ := X.leave (v := v) hv hlk
  exact ⟨_, _, hl fs hr, hrun, hended, _, _, rfl, q, ⟨_, rfl⟩, hW, hsame.mono hc hn⟩
theorem own_retI {pc : Nat} {Ls : Array Slot} {z : Int32} {rest : List Value} (X : Stand p l e R s m args below meth c T locs cells slots) (hx : p.tables.exec = Jvm.exec) (hlk : meth.locks = false) (hret : meth.sig.returnType = some .int) (hd : decode c.code pc = .ok (.ireturn, 1))
    (hc : cells ≤ C) (hn : slots ≤ N) (q : Q (some (.int z)) T.heap locs) : own_Go p e below (fun o U' => ∃ v L, o = .returned v ∧ Q v U'.heap L ∧ FrameEnd s o U' L C N) (T.setTop (mkF m pc Ls (.int z :: rest))) :=
  own_ret X hlk (fun h => by rw [hret] at h; cases h) (fun fs hr => retOut X hx hret rfl (Or.inl ⟨rfl, Or.inl rfl, z, rfl⟩) hd hr) hc hn q
theorem own_retN {t : FieldType} {pc : Nat} {Ls : Array Slot} {z : Int32} {rest : List Value} (X : Stand p l e R s m args below meth c T locs cells slots) (hx : p.tables.exec = Jvm.exec) (hlk : meth.locks = false) (hret : meth.sig.returnType = some t) (ht : t = .boolean ∨ t = .byte ∨ t = .char ∨ t = .short) (hz : nar t z = z) (hd : decode c.code pc = .ok (.ireturn, 1))
    (hc : cells ≤ C) (hn : slots ≤ N) (q : Q (some (.int z)) T.heap locs) : own_Go p e below (fun o U' => ∃ v L, o = .returned v ∧ Q v U'.heap L ∧ FrameEnd s o U' L C N) (T.setTop (mkF m pc Ls (.int z :: rest))) :=
  own_ret X hlk (fun h => by rw [hret] at h; cases h) (fun fs hr => retN X hx (z := z) hret ht hd (by rw [hz]; exact hr)) hc hn q
theorem own_retZ {pc : Nat} {Ls : Array Slot} {z : Int32} {rest : List Value} (X : Stand p l e R s m args below meth c T locs cells slots) (hx : p.tables.exec = Jvm.exec) (hlk : meth.locks = false) (hret : meth.sig.returnType = some .boolean) (hz : z = 0 ∨ z = 1) (hd : decode c.code pc = .ok (.ireturn, 1))
    (hc : cells ≤ C) (hn : slots ≤ N) (q : Q (some (.int z)) T.heap locs) : own_Go p e below (fun o U' => ∃ v L, o = .returned v ∧ Q v U'.heap L ∧ FrameEnd s o U' L C N) (T.setTop (mkF m pc Ls (.int z :: rest))) :=
  own_retN X hx hlk hret (Or.inl rfl) (by rcases hz with rfl | rfl <;> rfl) hd hc hn q
theorem own_retJ {pc : Nat} {Ls : Array Slot} {z : Int64} {rest : List Value} (X : Stand p l e R s m args below meth c T locs cells slots) (hx : p.tables.exec = Jvm.exec) (hlk : meth.locks = false) (hret : meth.sig.returnType = some .long) (hd : decode c.code pc = .ok (.lreturn, 1))
    (hc : cells ≤ C) (hn : slots ≤ N) (q : Q (some (.long z)) T.heap locs) : own_Go p e below (fun o U' => ∃ v L, o = .returned v ∧ Q v U'.heap L ∧ FrameEnd s o U' L C N) (T.setTop (mkF m pc Ls (.long z :: rest))) :=
  own_ret X hlk (fun h => by rw [hret] at h; cases h) (fun fs hr => retOut X hx hret rfl (Or.inr (Or.inl ⟨rfl, rfl, z, rfl⟩)) hd hr) hc hn q
theorem own_retD {pc : Nat} {Ls : Array Slot} {z : UInt64} {rest : List Value} (X : Stand p l e R s m args below meth c T locs cells slots) (hx : p.tables.exec = Jvm.exec) (hlk : meth.locks = false) (hret : meth.sig.returnType = some .double) (hd : decode c.code pc = .ok (.dreturn, 1))
    (hc : cells ≤ C) (hn : slots ≤ N) (q : Q (some (.double z)) T.heap locs) : own_Go p e below (fun o U' => ∃ v L, o = .returned v ∧ Q v U'.heap L ∧ FrameEnd s o U' L C N) (T.setTop (mkF m pc Ls (.double z :: rest))) :=
  own_ret X hlk (fun h => by rw [hret] at h; cases h) (fun fs hr => retOut X hx hret rfl (Or.inr (Or.inr (Or.inl ⟨rfl, rfl, z, rfl⟩))) hd hr) hc hn q
theorem own_retA {t : FieldType} {pc : Nat} {Ls : Array Slot} {w : Value} {rest : List Value} (X : Stand p l e R s m args below meth c T locs cells slots) (hx : p.tables.exec = Jvm.exec) (hlk : meth.locks = false) (hret : meth.sig.returnType = some t) (ht : t.isReference = true) (hw : w.isRef = true) (hd : decode c.code pc = .ok (.areturn, 1))
    (hc : cells ≤ C) (hn : slots ≤ N) (q : Q (some w) T.heap locs) : own_Go p e below (fun o U' => ∃ v L, o = .returned v ∧ Q v U'.heap L ∧ FrameEnd s o U' L C N) (T.setTop (mkF m pc Ls (w :: rest))) :=
  own_ret X hlk (fun h => by rw [hret] at h; cases h) (fun fs hr => retOut X hx hret (by rcases ref_cases hw with rfl | ⟨z, rfl⟩ <;> cases t <;> rfl) (Or.inr (Or.inr (Or.inr (Or.inr ⟨rfl, ht, hw⟩)))) hd hr) hc hn q
theorem own_retV {pc : Nat} {Ls : Array Slot} (X : Stand p l e R s m args below meth c T locs cells slots) (hx : p.tables.exec = Jvm.exec) (hlk : meth.locks = false) (hret : meth.sig.returnType = none) (hd : decode c.code pc = .ok (.return_, 1))
    (hc : cells ≤ C) (hn : slots ≤ N) (q : Q none T.heap locs) : own_Go p e below (fun o U' => ∃ v L, o = .returned v ∧ Q v U'.heap L ∧ FrameEnd s o U' L C N) (T.setTop (mkF m pc Ls [])) :=
  own_ret X hlk (fun _ => rfl) (fun fs hr => X.returnOut hx hret hd hr) hc hn q
theorem own_retW {vm0 : Vm} {k0 : Nat} {v : Option Value} {g : JFrame} (X : Stand p l e R (s.setVm vm0) m args below meth c T locs cells slots) (hlk : meth.locks = false) (hv : meth.sig.returnType = none → v = none) (hS : s.Since vm0 k0) (hk : k0 ≤ T.heap.size)
    (hl : ∀ fs : List Frame, (∀ (f : JFrame) (acts : List Action), f.method = m → f.locked = none → f.entered = [] → (doReturn e (T.setTop f) acts v).1 = T.setFrames fs) → Steps p.tables e below (T.setTop g) (T.setFrames fs))
    (hc : cells ≤ C) (hn : slots ≤ N) (q : Q v T.heap locs) : own_Go p e below (fun o U' => ∃ v L, o = .returned v ∧ Q v U'.heap L ∧ ReturnedEndW s o U' L C N) (T.setTop g) := by
  obtain ⟨fs, hr, hrun, hended, h1, h2, h3, h4⟩ := X.leaveW hS hk (v := v) hv hlk
  exact ⟨_, _, hl fs hr, hrun, hended, _, _, rfl, q, h1, h2, h3, h4.mono hc hn⟩
theorem own_retWV {vm0 : Vm} {k0 : Nat} {pc : Nat} {Ls : Array Slot} (X : Stand p l e R (s.setVm vm0) m args below meth c T locs cells slots) (hx : p.tables.exec = Jvm.exec) (hlk : meth.locks = false) (hret : meth.sig.returnType = none) (hS : s.Since vm0 k0) (hk : k0 ≤ T.heap.size) (hd : decode c.code pc = .ok (.return_, 1))
    (hc : cells ≤ C) (hn : slots ≤ N) (q : Q none T.heap locs) : own_Go p e below (fun o U' => ∃ v L, o = .returned v ∧ Q v U'.heap L ∧ ReturnedEndW s o U' L C N) (T.setTop (mkF m pc Ls [])) :=
  own_retW X hlk (fun _ => rfl) hS hk (fun fs hr => X.returnOut hx hret hd hr) hc hn q
theorem own_retWZ {vm0 : Vm} {k0 : Nat} {pc : Nat} {Ls : Array Slot} {z : Int32} {rest : List Value} (X : Stand p l e R (s.setVm vm0) m args below meth c T locs cells slots) (hx : p.tables.exec = Jvm.exec) (hlk : meth.locks = false) (hret : meth.sig.returnType = some .boolean) (hS : s.Since vm0 k0) (hk : k0 ≤ T.heap.size) (hz : z = 0 ∨ z = 1) (hd : decode c.code pc = .ok (.ireturn, 1))
    (hc : cells ≤ C) (hn : slots ≤ N) (q : Q (some (.int z)) T.heap locs) : own_Go p e below (fun o U' => ∃ v L, o = .returned v ∧ Q v U'.heap L ∧ ReturnedEndW s o U' L C N) (T.setTop (mkF m pc Ls (.int z :: rest))) :=
  own_retW X hlk (fun h => by rw [hret] at h; cases h) hS hk (fun fs hr => retN X hx (z := z) (t := .boolean) hret (Or.inl rfl) hd (by rw [show nar .boolean z = z by rcases hz with rfl | rfl <;> rfl]; exact hr)) hc hn q
/-- an array: its length, and what each place holds -/
def own_Ar (Z : State) (h : Heap) (a : Addr) (ty : FieldType) (n : Nat) (f : Nat → Value) : Prop := ∃ c : Cell, Arr Z h a c ty ∧ c.slots.size = n ∧ ∀ j, j < n → c.slots[j]? = some (f j)
section OwnAr
variable {Z : State} {h h' : Heap} {a b : Addr} {ty : FieldType} {n : Nat} {f f' : Nat → Value} {ws : List Addr}
theorem own_Ar.lt (F : own_Ar Z h a ty n f) : a < h.size := by obtain ⟨c, A, -⟩ := F; exact A.lt
theorem own_Ar.ext (F : own_Ar Z h a ty n f) (E : Ext h h') : own_Ar Z h' a ty n f := by obtain ⟨c, A, r⟩ := F; exact ⟨c, A.ext E, r⟩
theorem own_Ar.other {sl : Nat} {v : Value} (F : own_Ar Z h b ty n f) (W : Wr h h' a sl v) (q : b ≠ a) : own_Ar Z h' b ty n f := by obtain ⟨c, A, r⟩ := F; exact ⟨c, A.other W q, r⟩
theorem own_Ar.keep (F : own_Ar Z h a ty n f) (K : Keep h h' ws) (q : a ∉ ws) : own_Ar Z h' a ty n f := by obtain ⟨c, A, r⟩ := F; exact ⟨c, ⟨K.2.1 a c A.1 q, A.2⟩, r⟩
theorem own_Ar.congr (F : own_Ar Z h a ty n f) (q : ∀ j, j < n → f j = f' j) : own_Ar Z h a ty n f' := by obtain ⟨c, A, S, r⟩ := F; exact ⟨c, A, S, fun j hj => by rw [← q j hj]; exact r j hj⟩
theorem own_Ar.new {cA : ClassId} {z : Int32} (A : Arr Z h a (newA cA ty z) ty) (hz : z.toInt = (n : Int)) : own_Ar Z h a ty n (fun _ => defaultValue ty) := by
  have e : z.toNatClampNeg = n := by show z.toInt.toNat = n; omega
  exact ⟨_, A, by rw [sz_new, e], fun j hj => by simp [newA, e, hj]⟩
theorem own_Ar.set {i : Nat} {v : Value} (F : own_Ar Z h a ty n f) (W : Wr h h' a i v) : own_Ar Z h' a ty n (fun j => if j = i then v else f j) := by
  obtain ⟨c, A, S, r⟩ := F
  refine ⟨c.setSlot i v, A.same W, by rw [sz_set, S], fun j hj => ?_⟩
  show (c.slots.setIfInBounds i v)[j]? = _
  by_cases q : j = i
  · subst q; simp [S, hj]
  · rw [Array.getElem?_setIfInBounds_ne (Ne.symm q), r j hj]; simp [q]
theorem own_inb {c : Cell} {j : Int32} {i : Nat} (S : c.slots.size = n) (hj : j.toInt = (i : Int)) (hi : i < n) : ¬ (j < 0 ∨ c.slots.size ≤ j.toNatClampNeg) := by
  have e : j.toNatClampNeg = i := by show j.toInt.toNat = i; omega
  rw [e, S, Int32.lt_iff_toInt_lt, hj, show (0 : Int32).toInt = 0 by decide]
  omega
theorem own_clamp {j : Int32} {i : Nat} (hj : j.toInt = (i : Int)) : j.toNatClampNeg = i := by show j.toInt.toNat = i; omega
theorem own_alen (X : Stand p l e R s m args below meth c T locs cells slots) (hx : p.tables.exec = Jvm.exec) (hZ : Z.Warmed39 s.vm) (eT : T.heap = h) (F : own_Ar Z h a ty n f) {z : Int32} (hz : z.toInt = (n : Int))
    {g : JFrame} (hg : g.method = m) {rest : List Value} (hs : g.stack = .ref a :: rest) (hd : decode c.code g.pc = .ok (.arraylength, 1)) (target : State)
    (hr : Steps p.tables e below (T.setTop { g with pc := g.pc + 1, stack := .int z :: rest }) target) : Steps p.tables e below (T.setTop g) target := by
  obtain ⟨cl, A, S, -⟩ := F
  refine X.arraylength hx (by rw [eT]; exact A.1) (State.isArrayOf_alike hZ.alike A.2.1) hg hs hd target ?_
  have q : cl.slots.size.toInt32 = z := by
    rw [← Int32.toInt_inj, S, hz]
    have := z.toInt_lt
    exact len_toInt (by omega)
  rw [q]; exact hr
theorem own_dld (X : Stand p l e R s m args below meth c T locs cells slots) (hx : p.tables.exec = Jvm.exec) (hZ : Z.Warmed39 s.vm) (eT : T.heap = h) (F : own_Ar Z h a .double n f) {j : Int32} {i : Nat} (hj : j.toInt = (i : Int)) (hi : i < n) {v : Value} (hv : f i = v)
    {g : JFrame} (hg : g.method = m) {rest : List Value} (hs : g.stack = .int j :: .ref a :: rest) (hd : decode c.code g.pc = .ok (.daload, 1)) (target : State)
    (hr : Steps p.tables e below (T.setTop { g with pc := g.pc + 1, stack := v :: rest }) target) : Steps p.tables e below (T.setTop g) target := by
  obtain ⟨cl, A, S, H⟩ := F
  exact X.daload hx (by rw [eT]; exact A.1) (State.isArrayOf_alike hZ.alike A.2.1) A.2.2 (own_inb S hj hi) (by rw [own_clamp hj, H i hi, hv]) hg hs hd target hr
theorem own_lld (X : Stand p l e R s m args below meth c T locs cells slots) (hx : p.tables.exec = Jvm.exec) (hZ : Z.Warmed39 s.vm) (eT : T.heap = h) (F : own_Ar Z h a .long n f) {j : Int32} {i : Nat} (hj : j.toInt = (i : Int)) (hi : i < n) {v : Value} (hv : f i = v)
    {g : JFrame} (hg : g.method = m) {rest : List Value} (hs : g.stack = .int j :: .ref a :: rest) (hd : decode c.code g.pc = .ok (.laload, 1)) (target : State)
    (hr : Steps p.tables e below (T.setTop { g with pc := g.pc + 1, stack := v :: rest }) target) : Steps p.tables e below (T.setTop g) target := by
  obtain ⟨cl, A, S, H⟩ := F
  exact X.laload hx (by rw [eT]; exact A.1) (State.isArrayOf_alike hZ.alike A.2.1) A.2.2 (own_inb S hj hi) (by rw [own_clamp hj, H i hi, hv]) hg hs hd target hr
theorem own_dst (X : Stand p l e R s m args below meth c T locs cells slots) (hx : p.tables.exec = Jvm.exec) (hZ : Z.Warmed39 s.vm) (eT : T.heap = h) (F : own_Ar Z h a .double n f) {j : Int32} {i : Nat} (hj : j.toInt = (i : Int)) (hi : i < n) {x : UInt64}
    {g : JFrame} (hg : g.method = m) {rest : List Value} (hs : g.stack = .double x :: .int j :: .ref a :: rest) (hd : decode c.code g.pc = .ok (.dastore, 1)) :
    ∃ T' h', Stand p l e R s m args below meth c T' (locs ++ [⟨a, i⟩]) cells slots ∧ T'.heap = h' ∧ Wr h h' a i (.double x) ∧ ∀ target, Steps p.tables e below (T'.setTop { g with pc := g.pc + 1, stack := rest }) target → Steps p.tables e below (T.setTop g) target := by
  obtain ⟨cl, A, S, H⟩ := F
  have q := stD X hx hZ eT A (x := x) (own_inb S hj hi) hg hs hd
  rw [own_clamp hj] at q
  exact q
theorem own_lst (X : Stand p l e R s m args below meth c T locs cells slots) (hx : p.tables.exec = Jvm.exec) (hZ : Z.Warmed39 s.vm) (eT : T.heap = h) (F : own_Ar Z h a .long n f) {j : Int32} {i : Nat} (hj : j.toInt = (i : Int)) (hi : i < n) {x : Int64}
    {g : JFrame} (hg : g.method = m) {rest : List Value} (hs : g.stack = .long x :: .int j :: .ref a :: rest) (hd : decode c.code g.pc = .ok (.lastore, 1)) :
    ∃ T' h', Stand p l e R s m args below meth c T' (locs ++ [⟨a, i⟩]) cells slots ∧ T'.heap = h' ∧ Wr h h' a i (.long x) ∧ ∀ target, Steps p.tables e below (T'.setTop { g with pc := g.pc + 1, stack := rest }) target → Steps p.tables e below (T.setTop g) target := by
  obtain ⟨cl, A, S, H⟩ := F
  have q := stJ X hx hZ eT A (x := x) (own_inb S hj hi) hg hs hd
  rw [own_clamp hj] at q
  exact q
end OwnAr
theorem own_stakeep {Z : State} {h h' : Heap} {C n d : String} {v : Value} {ws : List Addr} (F : Sta Z h C n d v) (K : Keep h h' ws) (q : ∀ x ∈ ws, ∀ c : Cell, h[x]? = some c → c.vm.isStatics = false) : Sta Z h' C n d v := by
  obtain ⟨cf, i, k, f, st, cell, h1, h2, h3, h4, h5, h6, h7⟩ := F
  exact ⟨cf, i, k, f, st, cell, h1, h2, h3, h4, K.2.1 st cell h5 (fun hm => by rw [q st hm cell h5] at h6; cases h6), h6, h7⟩
end Own
end Jvm.RoadKit
namespace Jvm.Pilot.@@N@@
open Jvm Jvm.ClassFile Sem Op Lib Jvm.Free Jvm.Stand Jvm.LawKit Jvm.RoadKit Bundle Jvm.Pilot.@@N@@.Jvm.D
open Jvm.FP in
theorem own_negz (x : UInt64) : FP.dcmp x 9223372036854775808 = FP.dcmp x 0 := by
  show Core.order (Core.val64 x) (Core.val64 Core.dzeroNeg) = Core.order (Core.val64 x) (Core.val64 Core.dconst0)
  rw [Core.val64_dzeroNeg, Core.val64_dconst0]
  cases Core.val64 x <;> simp [Core.order, Core.signed, Core.inUnits]
open Jvm.FP in
theorem own_negz' (x : UInt64) : FP.dcmp 9223372036854775808 x = FP.dcmp 0 x := by
  show Core.order (Core.val64 Core.dzeroNeg) (Core.val64 x) = Core.order (Core.val64 Core.dconst0) (Core.val64 x)
  rw [Core.val64_dzeroNeg, Core.val64_dconst0]
  cases Core.val64 x <;> simp [Core.order, Core.signed, Core.inUnits]
/-- what holds(x) of the range from lo to hi returns -/
def own_hv (lo hi x : UInt64) : Int32 := if 0 < cmpValue (FP.dcmp lo x) .g then 0 else if 0 < cmpValue (FP.dcmp x hi) .g then 0 else 1
theorem own_hv1 {a b x : Int64} (ha : B53 a) (hb : B53 b) (hx : B53 x) (h1 : ¬ x < a) (h2 : ¬ b < x) : own_hv (FP.l2d a) (FP.l2d b) (FP.l2d x) = 1 := by
  unfold own_hv
  rw [dcmpV_w ha hx, dcmpV_w hx hb, if_neg (mt (lw_gt _ _).mp h1), if_neg (mt (lw_gt _ _).mp h2)]
theorem own_hv0 {a b x : Int64} (ha : B53 a) (hb : B53 b) (hx : B53 x) (h : x < a ∨ b < x) : own_hv (FP.l2d a) (FP.l2d b) (FP.l2d x) = 0 := by
  unfold own_hv
  rw [dcmpV_w ha hx, dcmpV_w hx hb]
  by_cases h1 : x < a
  · rw [if_pos ((lw_gt _ _).mpr h1)]
  · rw [if_neg (mt (lw_gt _ _).mp h1), if_pos ((lw_gt _ _).mpr (h.resolve_left h1))]
theorem own_hvz (lo hi : UInt64) : own_hv lo hi 9223372036854775808 = own_hv lo hi (FP.l2d 0) := by
  unfold own_hv
  rw [own_negz, own_negz', l2d_zero]
theorem own_out {a b x : Int64} (h : b < a) : x < a ∨ b < x := by
  rw [Int64.lt_iff_toInt_lt] at h
  rw [Int64.lt_iff_toInt_lt, Int64.lt_iff_toInt_lt]
  omega
theorem own_i64 (x : Int32) : -2147483648 ≤ x.toInt64.toInt ∧ x.toInt64.toInt < 2147483648 := by rw [c_i2l]; exact rng32 x
theorem own_B {a : Int64} (h : -2147483648 ≤ a.toInt ∧ a.toInt < 2147483648) : B53 a := ⟨by omega, by omega⟩
theorem own_pred {a : Int64} (h : -2147483648 ≤ a.toInt ∧ a.toInt < 2147483648) : (a - (1 : Int64)).toInt = a.toInt - 1 := by
  have h1 := c_lsub a 1
  have h2 := rng64 (a - 1)
  rw [show (1 : Int64).toInt = 1 by decide] at h1
  omega
theorem own_succ {a : Int64} (h : -2147483648 ≤ a.toInt ∧ a.toInt < 2147483648) : (a + (1 : Int64)).toInt = a.toInt + 1 := by
  have h1 := c_ladd a 1
  have h2 := rng64 (a + 1)
  rw [show (1 : Int64).toInt = 1 by decide] at h1
  omega
theorem own_mid {a b : Int64} (ha : -2147483648 ≤ a.toInt ∧ a.toInt < 2147483648) (hb : -2147483648 ≤ b.toInt ∧ b.toInt < 2147483648) : (a.toInt ≤ b.toInt → a.toInt ≤ (a + ((b - a) / (2 : Int64))).toInt ∧ (a + ((b - a) / (2 : Int64))).toInt ≤ b.toInt) ∧ (b.toInt < a.toInt → b.toInt < (a + ((b - a) / (2 : Int64))).toInt ∧ (a + ((b - a) / (2 : Int64))).toInt ≤ a.toInt) := by
  have h1 := c_lsub b a
  have h2 := rng64 (b - a)
  have h3 := c_ldiv (b - a) 2 2 (by decide) (by decide)
  have h4 := c_ladd a ((b - a) / 2)
  have h5 := rng64 (a + (b - a) / 2)
  have h6 : (b - a).toInt = b.toInt - a.toInt := by omega
  rw [h6] at h3
  by_cases q : a.toInt ≤ b.toInt
  · have := h3.1 (by omega)
    constructor <;> intro _ <;> omega
  · have := h3.2 (by omega)
    constructor <;> intro _ <;> omega
theorem own_pn0 : plainName "java/lang/Record" = true := by first | (simp [plainName, overriddenIn]; done) | decide +kernel
theorem own_ef1 (m : MethodId) (x0 : Addr) : entryFrame m #[(.ref x0)] 1 = mkF m 0 #[.val (.ref x0)] [] := by first | (simp [entryFrame, mkF, argsToLocals, Value.category]; done) | rfl
theorem own_d_jdk_30_1_0 : decode jdk_30_method_1_code 0 = .ok (.aload_n 0, 1) := by decide +kernel
theorem own_d_jdk_30_1_1 : decode jdk_30_method_1_code 1 = .ok (.invokespecial 1, 3) := by decide +kernel
theorem own_d_jdk_30_1_4 : decode jdk_30_method_1_code 4 = .ok (.return_, 1) := by decide +kernel
def own_Q_own_recinit (Z : State) (ao : Addr) (h0 : Heap) (n0 : Nat) (v : Option Value) (h : Heap) (L : List Loc) : Prop := v = none ∧ Fr n0 L ∧ h = h0
set_option maxRecDepth 65536 in
set_option maxHeartbeats 40000000 in
theorem own_recinit (l : Launch) (Z : State) (a0 : Array Value) (hw : ∀ d ∈ tables_1, d.before a0 Z = true) (ws : List Jvm.Cond) (ao : Addr) (h0 : Heap) (n0 : Nat) (Z0 : n0 ≤ h0.size)  :
    MetFree l (⟨"java/lang/Record", "<init>", "()V"⟩ : MethodName) (head1 (Jvm.Cond.code (⟨"java/lang/Record", "<init>", "()V"⟩ : MethodName) jdk_30_method_1_code 1 none :: ws) ({ frames := 1, cells := 0, slots := 0, locals := 12 } : Room)) (fun av_ U => av_ = #[(.ref ao)] ∧ Z.Warmed39 U.vm ∧ U.heap = h0) (fun _ _ _ _ _ => True) (fun _ U o U' => ∃ v L, o = .returned v ∧ own_Q_own_recinit Z ao h0 n0 v U'.heap L ∧ FrameEnd U o U' L ({ frames := 1, cells := 0, slots := 0, locals := 12 } : Room).cells ({ frames := 1, cells := 0, slots := 0, locals := 12 } : Room).slots) := by
  refine MetFree.of_bodySF (plainFor_of_name own_pn0) hisR ?_
  intro p e s m args below meth c s₁ Bd hml0 hP hK
  obtain ⟨rfl, hZ, hh⟩ := hP
  have hx := Bd.exec
  have hby := Bd.bytes
  have hml : c.maxLocals = 1 := hml0
  have hown : s.vm.findClass "java/lang/Record" = some m.cls := findClass_of_methodNamed Bd.named
  have hnm := (name_of_methodNamed Bd.named Bd.method).1
  have X0 : Stand p l e ({ frames := 1, cells := 0, slots := 0, locals := 12 } : Room) s m #[(.ref ao)] below meth c s₁ [] 0 0 := Stand.of_body Bd
  have e0 : s₁.heap = h0 := by rw [← hh, Bd.state]; rfl
  have N0 := Fr.nil n0
  suffices hgo : own_Go p e below (fun o U' => ∃ v L, o = .returned v ∧ own_Q_own_recinit Z ao h0 n0 v U'.heap L ∧ FrameEnd s o U' L ({ frames := 1, cells := 0, slots := 0, locals := 12 } : Room).cells ({ frames := 1, cells := 0, slots := 0, locals := 12 } : Room).slots) (s₁.setTop (mkF m 0 #[.val (.ref ao)] [])) by
    obtain ⟨s₂, o, h1, h2, h3, h4⟩ := hgo
    exact ⟨s₂, o, castTop (own_ef1 m ao) h1, h2, h3, h4⟩
  show own_Go p e below _ (s₁.setTop (mkF m 0 #[.val (.ref ao)] []))
  refine own_Go.st (fun _ kt => XS.aloadN X0.here hx rfl (hb hby own_d_jdk_30_1_0) rfl rfl kt) ?_
  show own_Go p e below _ (s₁.setTop (mkF m 1 #[.val (.ref ao)] [(.ref ao)]))
  obtain ⟨T1, X1, e1, st1⟩ := initO X0 hx hZ hown (hw _ (List.mem_of_getElem? (i := 11) rfl)) (hw _ (List.mem_of_getElem? (i := 12) rfl)) (hw _ (List.mem_of_getElem? (i := 13) rfl)) e0 (g := (mkF m 1 #[.val (.ref ao)] [(.ref ao)])) rfl (by rw [hml]; rfl) rfl (hb hby own_d_jdk_30_1_1) (by decide) (W := 0) (by show 2 * 0 + _ ≤ _; exact Nat.le_of_eq rfl) (by decide)
  refine own_Go.st st1 ?_
  show own_Go p e below _ (T1.setTop (mkF m 4 #[.val (.ref ao)] []))
  exact own_retV X1 hx Bd.notSynchronized Bd.returns (hb hby own_d_jdk_30_1_4) (by decide) (by decide) ⟨rfl, N0, e1⟩
theorem own_pn1 : plainName "com/example/wallingford/wallingford/mass/MzRange" = true := by first | (simp [plainName, overriddenIn]; done) | decide +kernel
theorem own_ef2 (m : MethodId) (x0 : Addr) (x1 : UInt64) (x2 : UInt64) : entryFrame m #[(.ref x0), (.double x1), (.double x2)] 5 = mkF m 0 #[.val (.ref x0), .val (.double x1), .second, .val (.double x2), .second] [] := by first | (simp [entryFrame, mkF, argsToLocals, Value.category]; done) | rfl
theorem own_d_prog_35_1_0 : decode prog_35_method_1_code 0 = .ok (.aload_n 0, 1) := by decide +kernel
theorem own_d_prog_35_1_1 : decode prog_35_method_1_code 1 = .ok (.invokespecial 1, 3) := by decide +kernel
theorem own_pd0 : parseMethodDescriptor "()V" = some ⟨[], none⟩ := by decide +kernel
theorem own_d_prog_35_1_4 : decode prog_35_method_1_code 4 = .ok (.aload_n 0, 1) := by decide +kernel
theorem own_d_prog_35_1_5 : decode prog_35_method_1_code 5 = .ok (.dload_n 1, 1) := by decide +kernel
theorem own_d_prog_35_1_6 : decode prog_35_method_1_code 6 = .ok (.putfield 7, 3) := by decide +kernel
theorem own_d_prog_35_1_9 : decode prog_35_method_1_code 9 = .ok (.aload_n 0, 1) := by decide +kernel
theorem own_d_prog_35_1_10 : decode prog_35_method_1_code 10 = .ok (.dload_n 3, 1) := by decide +kernel
theorem own_d_prog_35_1_11 : decode prog_35_method_1_code 11 = .ok (.putfield 13, 3) := by decide +kernel
theorem own_d_prog_35_1_14 : decode prog_35_method_1_code 14 = .ok (.return_, 1) := by decide +kernel
def own_Q_own_mzinit (Z : State) (ao : Addr) (xl xh : UInt64) (h0 : Heap) (n0 : Nat) (v : Option Value) (h : Heap) (L : List Loc) : Prop := v = none ∧ Fr n0 L ∧ Exa Z h ao "com/example/wallingford/wallingford/mass/MzRange" ∧ Fld Z h ao "com/example/wallingford/wallingford/mass/MzRange" "lowMz" "D" (.double xl) ∧ Fld Z h ao "com/example/wallingford/wallingford/mass/MzRange" "highMz" "D" (.double xh) ∧ Keep h0 h [ao]
set_option maxRecDepth 65536 in
set_option maxHeartbeats 40000000 in
theorem own_mzinit (l : Launch) (Z : State) (a0 : Array Value) (hw : ∀ d ∈ tables_1, d.before a0 Z = true) (ws : List Jvm.Cond) (ao : Addr) (xl xh : UInt64) (h0 : Heap) (n0 : Nat) (Z0 : n0 ≤ h0.size) (EO : Exa Z h0 ao "com/example/wallingford/wallingford/mass/MzRange") (F_lowMz : Fld Z h0 ao "com/example/wallingford/wallingford/mass/MzRange" "lowMz" "D" (.double 0)) (F_highMz : Fld Z h0 ao "com/example/wallingford/wallingford/mass/MzRange" "highMz" "D" (.double 0)) (ga : n0 ≤ ao) :
    MetFree l (⟨"com/example/wallingford/wallingford/mass/MzRange", "<init>", "(DD)V"⟩ : MethodName) (head1 (Jvm.Cond.code (⟨"com/example/wallingford/wallingford/mass/MzRange", "<init>", "(DD)V"⟩ : MethodName) prog_35_method_1_code 5 none :: ws) ({ frames := 2, cells := 0, slots := 0, locals := 24 } : Room)) (fun av_ U => av_ = #[(.ref ao), (.double xl), (.double xh)] ∧ Z.Warmed39 U.vm ∧ U.heap = h0) (fun _ _ _ _ _ => True) (fun _ U o U' => ∃ v L, o = .returned v ∧ own_Q_own_mzinit Z ao xl xh h0 n0 v U'.heap L ∧ FrameEnd U o U' L ({ frames := 2, cells := 0, slots := 0, locals := 24 } : Room).cells ({ frames := 2, cells := 0, slots := 0, locals := 24 } : Room).slots) := by
  refine MetFree.of_bodySF (plainFor_of_name own_pn1) hisR ?_
  intro p e s m args below meth c s₁ Bd hml0 hP hK
  obtain ⟨rfl, hZ, hh⟩ := hP
  have hx := Bd.exec
  have hby := Bd.bytes
  have hml : c.maxLocals = 5 := hml0
  have hown : s.vm.findClass "com/example/wallingford/wallingford/mass/MzRange" = some m.cls := findClass_of_methodNamed Bd.named
  have hnm := (name_of_methodNamed Bd.named Bd.method).1
  have X0 : Stand p l e ({ frames := 2, cells := 0, slots := 0, locals := 24 } : Room) s m #[(.ref ao), (.double xl), (.double xh)] below meth c s₁ [] 0 0 := Stand.of_body Bd
  have e0 : s₁.heap = h0 := by rw [← hh, Bd.state]; rfl
  have N0 := Fr.nil n0
  suffices hgo : own_Go p e below (fun o U' => ∃ v L, o = .returned v ∧ own_Q_own_mzinit Z ao xl xh h0 n0 v U'.heap L ∧ FrameEnd s o U' L ({ frames := 2, cells := 0, slots := 0, locals := 24 } : Room).cells ({ frames := 2, cells := 0, slots := 0, locals := 24 } : Room).slots) (s₁.setTop (mkF m 0 #[.val (.ref ao), .val (.double xl), .second, .val (.double xh), .second] [])) by
    obtain ⟨s₂, o, h1, h2, h3, h4⟩ := hgo
    exact ⟨s₂, o, castTop (own_ef2 m ao xl xh) h1, h2, h3, h4⟩
  have kk0 : Keep h0 h0 [ao] := Keep.refl _ _
  show own_Go p e below _ (s₁.setTop (mkF m 0 #[.val (.ref ao), .val (.double xl), .second, .val (.double xh), .second] []))
  refine own_Go.st (fun _ kt => XS.aloadN X0.here hx rfl (hb hby own_d_prog_35_1_0) rfl rfl kt) ?_
  show own_Go p e below _ (s₁.setTop (mkF m 1 #[.val (.ref ao), .val (.double xl), .second, .val (.double xh), .second] [(.ref ao)]))
  obtain ⟨_, _, ⟨T1, L1, k1, n1⟩, -, X1, ⟨Lc1, hQ1, l1, y1, z1⟩, st1⟩ := X0.specialBack hx (y := (⟨"java/lang/Record", "<init>", "()V"⟩ : MethodName)) rfl hown (mvT hZ (hw _ (List.mem_of_getElem? (i := 6) rfl))) (mvT hZ (hw _ (List.mem_of_getElem? (i := 7) rfl))) (mvT hZ (hw _ (List.mem_of_getElem? (i := 10) rfl))) (by decide) (backOf (W := 0) (own_recinit l Z a0 hw [] ao h0 n0 Z0 ) hZ (hw _ (List.mem_of_getElem? (i := 10) rfl)) (hw _ (List.mem_of_getElem? (i := 9) rfl)) (by decide) (by decide)) (g := (mkF m 1 #[.val (.ref ao), .val (.double xl), .second, .val (.double xh), .second] [(.ref ao)])) rfl (by rw [hml]; rfl) (Steps.refl _) (a := ao) (argsL := []) (rest := []) (lenOf own_pd0 rfl) rfl (by show 2 * 0 + _ ≤ _; exact Nat.le_of_eq rfl) (hb hby own_d_prog_35_1_1) (fun _ _ => ⟨rfl, e0, (by decide : 0 + 0 ≤ _), (by decide : 0 + 0 ≤ _)⟩)
  dsimp only [Pt.U, Pt.locs, Pt.cells, Pt.slots] at X1 l1 y1 z1 st1 hQ1
  subst l1 y1 z1
  obtain ⟨rfl, N1q, hh1⟩ := hQ1
  have N1 := Fr.app N0 N1q
  refine own_Go.st (fun _ kt => st1.trans kt) ?_
  show own_Go p e below _ (T1.setTop (mkF m 4 #[.val (.ref ao), .val (.double xl), .second, .val (.double xh), .second] []))
  refine own_Go.st (fun _ kt => XS.aloadN X1.here hx rfl (hb hby own_d_prog_35_1_4) rfl rfl kt) ?_
  show own_Go p e below _ (T1.setTop (mkF m 5 #[.val (.ref ao), .val (.double xl), .second, .val (.double xh), .second] [(.ref ao)]))
  refine own_Go.st (fun _ kt => XS.dloadN X1.here hx rfl (hb hby own_d_prog_35_1_5) rfl kt) ?_
  show own_Go p e below _ (T1.setTop (mkF m 6 #[.val (.ref ao), .val (.double xl), .second, .val (.double xh), .second] [(.double xl), (.ref ao)]))
  obtain ⟨T2, h2, X2, e2, W2, st2⟩ := putF X1 hx hZ hown (host := "") (Or.inl (hw _ (List.mem_of_getElem? (i := 14) rfl))) Via.refl hh1 F_lowMz EO (Or.inr ⟨(hw _ (List.mem_of_getElem? (i := 15) rfl)), rfl, hnm⟩) (hw _ (List.mem_of_getElem? (i := 1) rfl)) (ty := .double) (by decide) rfl rfl (g := (mkF m 6 #[.val (.ref ao), .val (.double xl), .second, .val (.double xh), .second] [(.double xl), (.ref ao)])) rfl rfl (hb hby own_d_prog_35_1_6)
  refine own_Go.st st2 ?_
  have N2 := Fr.snoc X2 N1 ga
  have f2_lowMz := Fld.same W2 F_lowMz
  have zz3 : n0 ≤ Array.size h2 := Nat.le_trans Z0 (Nat.le_of_eq (Wr.size W2).symm)
  have kk3 : Keep h0 h2 [ao] := kk0.wr W2 (Or.inl (List.mem_of_getElem? (i := 0) rfl))
  show own_Go p e below _ (T2.setTop (mkF m 9 #[.val (.ref ao), .val (.double xl), .second, .val (.double xh), .second] []))
  refine own_Go.st (fun _ kt => XS.aloadN X2.here hx rfl (hb hby own_d_prog_35_1_9) rfl rfl kt) ?_
  show own_Go p e below _ (T2.setTop (mkF m 10 #[.val (.ref ao), .val (.double xl), .second, .val (.double xh), .second] [(.ref ao)]))
  refine own_Go.st (fun _ kt => XS.dloadN X2.here hx rfl (hb hby own_d_prog_35_1_10) rfl kt) ?_
  show own_Go p e below _ (T2.setTop (mkF m 11 #[.val (.ref ao), .val (.double xl), .second, .val (.double xh), .second] [(.double xh), (.ref ao)]))
  have f4 := (F_highMz.other W2 (Or.inr (slot_ne (Or.inr (hw _ (List.mem_of_getElem? (i := 17) rfl))) (Or.inr (hw _ (List.mem_of_getElem? (i := 15) rfl))) (by decide) (t := .double) (t' := .double) (by decide) (by decide))))
  have f5 := (EO.wr W2)
  obtain ⟨T6, h6, X6, e6, W6, st6⟩ := putF X2 hx hZ hown (host := "") (Or.inl (hw _ (List.mem_of_getElem? (i := 16) rfl))) Via.refl e2 f4 f5 (Or.inr ⟨(hw _ (List.mem_of_getElem? (i := 17) rfl)), rfl, hnm⟩) (hw _ (List.mem_of_getElem? (i := 1) rfl)) (ty := .double) (by decide) rfl rfl (g := (mkF m 11 #[.val (.ref ao), .val (.double xl), .second, .val (.double xh), .second] [(.double xh), (.ref ao)])) rfl rfl (hb hby own_d_prog_35_1_11)
  refine own_Go.st st6 ?_
  have N6 := Fr.snoc X6 N2 ga
  have f6_highMz := Fld.same W6 f4
  have zz7 : n0 ≤ Array.size h6 := Nat.le_trans zz3 (Nat.le_of_eq (Wr.size W6).symm)
  have kk7 : Keep h0 h6 [ao] := kk3.wr W6 (Or.inl (List.mem_of_getElem? (i := 0) rfl))
  show own_Go p e below _ (T6.setTop (mkF m 14 #[.val (.ref ao), .val (.double xl), .second, .val (.double xh), .second] []))
  have f8 := (f2_lowMz.other W6 (Or.inr (slot_ne (Or.inr (hw _ (List.mem_of_getElem? (i := 15) rfl))) (Or.inr (hw _ (List.mem_of_getElem? (i := 17) rfl))) (by decide) (t := .double) (t' := .double) (by decide) (by decide))))
  have fin1 := f8
  have fin2 := f6_highMz
  have f9 := (f5.wr W6)
  have fin3 := f9
  rw [← e6] at fin1 fin2 fin3
  exact own_retV X6 hx Bd.notSynchronized Bd.returns (hb hby own_d_prog_35_1_14) (by decide) (by decide) ⟨rfl, N6, fin3, fin1, fin2, e6 ▸ kk7⟩
theorem own_ef3 (m : MethodId) (x0 : Addr) (x1 : UInt64) : entryFrame m #[(.ref x0), (.double x1)] 3 = mkF m 0 #[.val (.ref x0), .val (.double x1), .second] [] := by first | (simp [entryFrame, mkF, argsToLocals, Value.category]; done) | rfl
theorem own_d_prog_35_2_0 : decode prog_35_method_2_code 0 = .ok (.aload_n 0, 1) := by decide +kernel
theorem own_d_prog_35_2_1 : decode prog_35_method_2_code 1 = .ok (.getfield 7, 3) := by decide +kernel
theorem own_d_prog_35_2_4 : decode prog_35_method_2_code 4 = .ok (.dload_n 1, 1) := by decide +kernel
theorem own_d_prog_35_2_5 : decode prog_35_method_2_code 5 = .ok (.dcmp .g, 1) := by decide +kernel
theorem own_d_prog_35_2_6 : decode prog_35_method_2_code 6 = .ok (.ifCond .gt 16, 3) := by decide +kernel
theorem own_d_prog_35_2_22 : decode prog_35_method_2_code 22 = .ok (.iconst 0, 1) := by decide +kernel
theorem own_d_prog_35_2_23 : decode prog_35_method_2_code 23 = .ok (.ireturn, 1) := by decide +kernel
theorem own_d_prog_35_2_9 : decode prog_35_method_2_code 9 = .ok (.dload_n 1, 1) := by decide +kernel
theorem own_d_prog_35_2_10 : decode prog_35_method_2_code 10 = .ok (.aload_n 0, 1) := by decide +kernel
theorem own_d_prog_35_2_11 : decode prog_35_method_2_code 11 = .ok (.getfield 13, 3) := by decide +kernel
theorem own_d_prog_35_2_14 : decode prog_35_method_2_code 14 = .ok (.dcmp .g, 1) := by decide +kernel
theorem own_d_prog_35_2_15 : decode prog_35_method_2_code 15 = .ok (.ifCond .gt 7, 3) := by decide +kernel
theorem own_d_prog_35_2_18 : decode prog_35_method_2_code 18 = .ok (.iconst 1, 1) := by decide +kernel
theorem own_d_prog_35_2_19 : decode prog_35_method_2_code 19 = .ok (.goto 4, 3) := by decide +kernel
def own_Q_own_holds (Z : State) (ao : Addr) (xl xh xd : UInt64) (h0 : Heap) (n0 : Nat) (v : Option Value) (h : Heap) (L : List Loc) : Prop := v = some (.int (own_hv xl xh xd)) ∧ Fr n0 L ∧ h = h0
set_option maxRecDepth 65536 in
set_option maxHeartbeats 40000000 in
theorem own_holds (l : Launch) (Z : State) (a0 : Array Value) (hw : ∀ d ∈ tables_1, d.before a0 Z = true) (ws : List Jvm.Cond) (ao : Addr) (xl xh xd : UInt64) (h0 : Heap) (n0 : Nat) (Z0 : n0 ≤ h0.size) (F1 : Fld Z h0 ao "com/example/wallingford/wallingford/mass/MzRange" "lowMz" "D" (.double xl)) (F2 : Fld Z h0 ao "com/example/wallingford/wallingford/mass/MzRange" "highMz" "D" (.double xh)) :
    MetFree l (⟨"com/example/wallingford/wallingford/mass/MzRange", "holds", "(D)Z"⟩ : MethodName) (head1 (Jvm.Cond.code (⟨"com/example/wallingford/wallingford/mass/MzRange", "holds", "(D)Z"⟩ : MethodName) prog_35_method_2_code 3 (some .boolean) :: ws) ({ frames := 0, cells := 0, slots := 0, locals := 0 } : Room)) (fun av_ U => av_ = #[(.ref ao), (.double xd)] ∧ Z.Warmed39 U.vm ∧ U.heap = h0) (fun _ _ _ _ _ => True) (fun _ U o U' => ∃ v L, o = .returned v ∧ own_Q_own_holds Z ao xl xh xd h0 n0 v U'.heap L ∧ FrameEnd U o U' L ({ frames := 0, cells := 0, slots := 0, locals := 0 } : Room).cells ({ frames := 0, cells := 0, slots := 0, locals := 0 } : Room).slots) := by
  refine MetFree.of_bodySF (plainFor_of_name own_pn1) hisR ?_
  intro p e s m args below meth c s₁ Bd hml0 hP hK
  obtain ⟨rfl, hZ, hh⟩ := hP
  have hx := Bd.exec
  have hby := Bd.bytes
  have hml : c.maxLocals = 3 := hml0
  have hown : s.vm.findClass "com/example/wallingford/wallingford/mass/MzRange" = some m.cls := findClass_of_methodNamed Bd.named
  have hnm := (name_of_methodNamed Bd.named Bd.method).1
  have X0 : Stand p l e ({ frames := 0, cells := 0, slots := 0, locals := 0 } : Room) s m #[(.ref ao), (.double xd)] below meth c s₁ [] 0 0 := Stand.of_body Bd
  have e0 : s₁.heap = h0 := by rw [← hh, Bd.state]; rfl
  have N0 := Fr.nil n0
  suffices hgo : own_Go p e below (fun o U' => ∃ v L, o = .returned v ∧ own_Q_own_holds Z ao xl xh xd h0 n0 v U'.heap L ∧ FrameEnd s o U' L ({ frames := 0, cells := 0, slots := 0, locals := 0 } : Room).cells ({ frames := 0, cells := 0, slots := 0, locals := 0 } : Room).slots) (s₁.setTop (mkF m 0 #[.val (.ref ao), .val (.double xd), .second] [])) by
    obtain ⟨s₂, o, h1, h2, h3, h4⟩ := hgo
    exact ⟨s₂, o, castTop (own_ef3 m ao xd) h1, h2, h3, h4⟩
  show own_Go p e below _ (s₁.setTop (mkF m 0 #[.val (.ref ao), .val (.double xd), .second] []))
  refine own_Go.st (fun _ kt => XS.aloadN X0.here hx rfl (hb hby own_d_prog_35_2_0) rfl rfl kt) ?_
  show own_Go p e below _ (s₁.setTop (mkF m 1 #[.val (.ref ao), .val (.double xd), .second] [(.ref ao)]))
  obtain ⟨T1, X1, e1, st1⟩ := getF X0 hx hZ hown (host := "") (Or.inl (hw _ (List.mem_of_getElem? (i := 14) rfl))) Via.refl e0 F1 (g := (mkF m 1 #[.val (.ref ao), .val (.double xd), .second] [(.ref ao)])) rfl rfl (hb hby own_d_prog_35_2_1)
  refine own_Go.st st1 ?_
  show own_Go p e below _ (T1.setTop (mkF m 4 #[.val (.ref ao), .val (.double xd), .second] [(.double xl)]))
  refine own_Go.st (fun _ kt => XS.dloadN X1.here hx rfl (hb hby own_d_prog_35_2_4) rfl kt) ?_
  show own_Go p e below _ (T1.setTop (mkF m 5 #[.val (.ref ao), .val (.double xd), .second] [(.double xd), (.double xl)]))
  refine own_Go.st (fun _ kt => XS.dcmpS X1.here hx rfl (hb hby own_d_prog_35_2_5) rfl rfl kt) ?_
  show own_Go p e below _ (T1.setTop (mkF m 6 #[.val (.ref ao), .val (.double xd), .second] [(.int (cmpValue (FP.dcmp xl xd) .g))]))
  by_cases hc1 : (0 : Int32) < (cmpValue (FP.dcmp xl xd) .g)
  · refine own_Go.st (fun _ kt => XS.ifYes X1.here hx rfl (pc0 := 6) (pc' := 22) rfl (hb hby own_d_prog_35_2_6) rfl ((if0 _ _).trans (tlt hc1).2.2.1) (by decide) (by decide) kt) ?_
    show own_Go p e below _ (T1.setTop (mkF m 22 #[.val (.ref ao), .val (.double xd), .second] []))
    refine own_Go.st (fun _ kt => XS.iconst X1.here hx rfl (hb hby own_d_prog_35_2_22) kt) ?_
    show own_Go p e below _ (T1.setTop (mkF m 23 #[.val (.ref ao), .val (.double xd), .second] [(.int (0 : Int32))]))
    exact own_retZ X1 hx Bd.notSynchronized Bd.returns (Or.inl rfl) (hb hby own_d_prog_35_2_23) (by decide) (by decide) ⟨by simp only [own_hv, if_pos hc1], N0, e1⟩
  · refine own_Go.st (fun _ kt => XS.ifNo X1.here hx rfl (hb hby own_d_prog_35_2_6) rfl ((if0 _ _).trans (flt hc1).2.2.1) kt) ?_
    show own_Go p e below _ (T1.setTop (mkF m 9 #[.val (.ref ao), .val (.double xd), .second] []))
    refine own_Go.st (fun _ kt => XS.dloadN X1.here hx rfl (hb hby own_d_prog_35_2_9) rfl kt) ?_
    show own_Go p e below _ (T1.setTop (mkF m 10 #[.val (.ref ao), .val (.double xd), .second] [(.double xd)]))
    refine own_Go.st (fun _ kt => XS.aloadN X1.here hx rfl (hb hby own_d_prog_35_2_10) rfl rfl kt) ?_
    show own_Go p e below _ (T1.setTop (mkF m 11 #[.val (.ref ao), .val (.double xd), .second] [(.ref ao), (.double xd)]))
    obtain ⟨T2, X2, e2, st2⟩ := getF X1 hx hZ hown (host := "") (Or.inl (hw _ (List.mem_of_getElem? (i := 16) rfl))) Via.refl e1 F2 (g := (mkF m 11 #[.val (.ref ao), .val (.double xd), .second] [(.ref ao), (.double xd)])) rfl rfl (hb hby own_d_prog_35_2_11)
    refine own_Go.st st2 ?_
    show own_Go p e below _ (T2.setTop (mkF m 14 #[.val (.ref ao), .val (.double xd), .second] [(.double xh), (.double xd)]))
    refine own_Go.st (fun _ kt => XS.dcmpS X2.here hx rfl (hb hby own_d_prog_35_2_14) rfl rfl kt) ?_
    show own_Go p e below _ (T2.setTop (mkF m 15 #[.val (.ref ao), .val (.double xd), .second] [(.int (cmpValue (FP.dcmp xd xh) .g))]))
    by_cases hc2 : (0 : Int32) < (cmpValue (FP.dcmp xd xh) .g)
    · refine own_Go.st (fun _ kt => XS.ifYes X2.here hx rfl (pc0 := 15) (pc' := 22) rfl (hb hby own_d_prog_35_2_15) rfl ((if0 _ _).trans (tlt hc2).2.2.1) (by decide) (by decide) kt) ?_
      show own_Go p e below _ (T2.setTop (mkF m 22 #[.val (.ref ao), .val (.double xd), .second] []))
      refine own_Go.st (fun _ kt => XS.iconst X2.here hx rfl (hb hby own_d_prog_35_2_22) kt) ?_
      show own_Go p e below _ (T2.setTop (mkF m 23 #[.val (.ref ao), .val (.double xd), .second] [(.int (0 : Int32))]))
      exact own_retZ X2 hx Bd.notSynchronized Bd.returns (Or.inl rfl) (hb hby own_d_prog_35_2_23) (by decide) (by decide) ⟨by simp only [own_hv, if_neg hc1, if_pos hc2], N0, e2⟩
    · refine own_Go.st (fun _ kt => XS.ifNo X2.here hx rfl (hb hby own_d_prog_35_2_15) rfl ((if0 _ _).trans (flt hc2).2.2.1) kt) ?_
      show own_Go p e below _ (T2.setTop (mkF m 18 #[.val (.ref ao), .val (.double xd), .second] []))
      refine own_Go.st (fun _ kt => XS.iconst X2.here hx rfl (hb hby own_d_prog_35_2_18) kt) ?_
      show own_Go p e below _ (T2.setTop (mkF m 19 #[.val (.ref ao), .val (.double xd), .second] [(.int (1 : Int32))]))
      refine own_Go.st (fun _ kt => XS.goto X2.here hx rfl (pc0 := 19) (pc' := 23) rfl (hb hby own_d_prog_35_2_19) (by decide) (by decide) kt) ?_
      show own_Go p e below _ (T2.setTop (mkF m 23 #[.val (.ref ao), .val (.double xd), .second] [(.int (1 : Int32))]))
      exact own_retZ X2 hx Bd.notSynchronized Bd.returns (Or.inr rfl) (hb hby own_d_prog_35_2_23) (by decide) (by decide) ⟨by simp only [own_hv, if_neg hc1, if_neg hc2], N0, e2⟩
theorem own_ef4 (m : MethodId) (x0 : Int64) (x1 : Int64) : entryFrame m #[(.long x0), (.long x1)] 4 = mkF m 0 #[.val (.long x0), .second, .val (.long x1), .second] [] := by first | (simp [entryFrame, mkF, argsToLocals, Value.category]; done) | rfl
theorem own_d_jdk_29_66_0 : decode jdk_29_method_66_code 0 = .ok (.lload_n 0, 1) := by decide +kernel
theorem own_d_jdk_29_66_1 : decode jdk_29_method_66_code 1 = .ok (.lload_n 2, 1) := by decide +kernel
theorem own_d_jdk_29_66_2 : decode jdk_29_method_66_code 2 = .ok (.lcmp, 1) := by decide +kernel
theorem own_d_jdk_29_66_3 : decode jdk_29_method_66_code 3 = .ok (.ifCond .lt 7, 3) := by decide +kernel
theorem own_d_jdk_29_66_10 : decode jdk_29_method_66_code 10 = .ok (.lload_n 2, 1) := by decide +kernel
theorem own_d_jdk_29_66_11 : decode jdk_29_method_66_code 11 = .ok (.lreturn, 1) := by decide +kernel
theorem own_d_jdk_29_66_6 : decode jdk_29_method_66_code 6 = .ok (.lload_n 0, 1) := by decide +kernel
theorem own_d_jdk_29_66_7 : decode jdk_29_method_66_code 7 = .ok (.goto 4, 3) := by decide +kernel
def own_Q_own_max (Z : State) (xa xb : Int64) (h0 : Heap) (n0 : Nat) (v : Option Value) (h : Heap) (L : List Loc) : Prop := v = some (.long (if xa < xb then xb else xa)) ∧ Fr n0 L ∧ h = h0
set_option maxRecDepth 65536 in
set_option maxHeartbeats 40000000 in
theorem own_max (l : Launch) (Z : State) (a0 : Array Value) (hw : ∀ d ∈ tables_1, d.before a0 Z = true) (ws : List Jvm.Cond) (xa xb : Int64) (h0 : Heap) (n0 : Nat) (Z0 : n0 ≤ h0.size)  :
    MetFree l (⟨"java/lang/Math", "max", "(JJ)J"⟩ : MethodName) (head1 (Jvm.Cond.code (⟨"java/lang/Math", "max", "(JJ)J"⟩ : MethodName) jdk_29_method_66_code 4 (some .long) :: ws) ({ frames := 0, cells := 0, slots := 0, locals := 0 } : Room)) (fun av_ U => av_ = #[(.long xa), (.long xb)] ∧ Z.Warmed39 U.vm ∧ U.heap = h0) (fun _ _ _ _ _ => True) (fun _ U o U' => ∃ v L, o = .returned v ∧ own_Q_own_max Z xa xb h0 n0 v U'.heap L ∧ FrameEnd U o U' L ({ frames := 0, cells := 0, slots := 0, locals := 0 } : Room).cells ({ frames := 0, cells := 0, slots := 0, locals := 0 } : Room).slots) := by
  refine MetFree.of_bodySF (by decide +kernel) hisR ?_
  intro p e s m args below meth c s₁ Bd hml0 hP hK
  obtain ⟨rfl, hZ, hh⟩ := hP
  have hx := Bd.exec
  have hby := Bd.bytes
  have hml : c.maxLocals = 4 := hml0
  have hown : s.vm.findClass "java/lang/Math" = some m.cls := findClass_of_methodNamed Bd.named
  have hnm := (name_of_methodNamed Bd.named Bd.method).1
  have X0 : Stand p l e ({ frames := 0, cells := 0, slots := 0, locals := 0 } : Room) s m #[(.long xa), (.long xb)] below meth c s₁ [] 0 0 := Stand.of_body Bd
  have e0 : s₁.heap = h0 := by rw [← hh, Bd.state]; rfl
  have N0 := Fr.nil n0
  suffices hgo : own_Go p e below (fun o U' => ∃ v L, o = .returned v ∧ own_Q_own_max Z xa xb h0 n0 v U'.heap L ∧ FrameEnd s o U' L ({ frames := 0, cells := 0, slots := 0, locals := 0 } : Room).cells ({ frames := 0, cells := 0, slots := 0, locals := 0 } : Room).slots) (s₁.setTop (mkF m 0 #[.val (.long xa), .second, .val (.long xb), .second] [])) by
    obtain ⟨s₂, o, h1, h2, h3, h4⟩ := hgo
    exact ⟨s₂, o, castTop (own_ef4 m xa xb) h1, h2, h3, h4⟩
  show own_Go p e below _ (s₁.setTop (mkF m 0 #[.val (.long xa), .second, .val (.long xb), .second] []))
  refine own_Go.st (fun _ kt => XS.lloadN X0.here hx rfl (hb hby own_d_jdk_29_66_0) rfl kt) ?_
  show own_Go p e below _ (s₁.setTop (mkF m 1 #[.val (.long xa), .second, .val (.long xb), .second] [(.long xa)]))
  refine own_Go.st (fun _ kt => XS.lloadN X0.here hx rfl (hb hby own_d_jdk_29_66_1) rfl kt) ?_
  show own_Go p e below _ (s₁.setTop (mkF m 2 #[.val (.long xa), .second, .val (.long xb), .second] [(.long xb), (.long xa)]))
  refine own_Go.st (fun _ kt => XS.lcmp X0.here hx rfl (hb hby own_d_jdk_29_66_2) rfl kt) ?_
  show own_Go p e below _ (s₁.setTop (mkF m 3 #[.val (.long xa), .second, .val (.long xb), .second] [(.int (lcmpW xa xb))]))
  by_cases hc : xa < xb
  · refine own_Go.st (fun _ kt => XS.ifYes X0.here hx rfl (pc0 := 3) (pc' := 10) rfl (hb hby own_d_jdk_29_66_3) rfl ((if0 _ _).trans (tlt ((lw_lt _ _).mpr hc)).1) (by decide) (by decide) kt) ?_
    show own_Go p e below _ (s₁.setTop (mkF m 10 #[.val (.long xa), .second, .val (.long xb), .second] []))
    refine own_Go.st (fun _ kt => XS.lloadN X0.here hx rfl (hb hby own_d_jdk_29_66_10) rfl kt) ?_
    show own_Go p e below _ (s₁.setTop (mkF m 11 #[.val (.long xa), .second, .val (.long xb), .second] [(.long xb)]))
    exact own_retJ X0 hx Bd.notSynchronized Bd.returns (hb hby own_d_jdk_29_66_11) (by decide) (by decide) ⟨by simp [hc], N0, e0⟩
  · refine own_Go.st (fun _ kt => XS.ifNo X0.here hx rfl (hb hby own_d_jdk_29_66_3) rfl ((if0 _ _).trans (flt (mt (lw_lt _ _).mp hc)).1) kt) ?_
    show own_Go p e below _ (s₁.setTop (mkF m 6 #[.val (.long xa), .second, .val (.long xb), .second] []))
    refine own_Go.st (fun _ kt => XS.lloadN X0.here hx rfl (hb hby own_d_jdk_29_66_6) rfl kt) ?_
    show own_Go p e below _ (s₁.setTop (mkF m 7 #[.val (.long xa), .second, .val (.long xb), .second] [(.long xa)]))
    refine own_Go.st (fun _ kt => XS.goto X0.here hx rfl (pc0 := 7) (pc' := 11) rfl (hb hby own_d_jdk_29_66_7) (by decide) (by decide) kt) ?_
    show own_Go p e below _ (s₁.setTop (mkF m 11 #[.val (.long xa), .second, .val (.long xb), .second] [(.long xa)]))
    exact own_retJ X0 hx Bd.notSynchronized Bd.returns (hb hby own_d_jdk_29_66_11) (by decide) (by decide) ⟨by simp [hc], N0, e0⟩
theorem own_ef5 (m : MethodId) (x0 : Int64) (x1 : Int64) : entryFrame m #[(.long x0), (.long x1)] 4 = mkF m 0 #[.val (.long x0), .second, .val (.long x1), .second] [] := by first | (simp [entryFrame, mkF, argsToLocals, Value.category]; done) | rfl
theorem own_d_jdk_29_70_0 : decode jdk_29_method_70_code 0 = .ok (.lload_n 0, 1) := by decide +kernel
theorem own_d_jdk_29_70_1 : decode jdk_29_method_70_code 1 = .ok (.lload_n 2, 1) := by decide +kernel
theorem own_d_jdk_29_70_2 : decode jdk_29_method_70_code 2 = .ok (.lcmp, 1) := by decide +kernel
theorem own_d_jdk_29_70_3 : decode jdk_29_method_70_code 3 = .ok (.ifCond .gt 7, 3) := by decide +kernel
theorem own_d_jdk_29_70_10 : decode jdk_29_method_70_code 10 = .ok (.lload_n 2, 1) := by decide +kernel
theorem own_d_jdk_29_70_11 : decode jdk_29_method_70_code 11 = .ok (.lreturn, 1) := by decide +kernel
theorem own_d_jdk_29_70_6 : decode jdk_29_method_70_code 6 = .ok (.lload_n 0, 1) := by decide +kernel
theorem own_d_jdk_29_70_7 : decode jdk_29_method_70_code 7 = .ok (.goto 4, 3) := by decide +kernel
def own_Q_own_min (Z : State) (xa xb : Int64) (h0 : Heap) (n0 : Nat) (v : Option Value) (h : Heap) (L : List Loc) : Prop := v = some (.long (if xb < xa then xb else xa)) ∧ Fr n0 L ∧ h = h0
set_option maxRecDepth 65536 in
set_option maxHeartbeats 40000000 in
theorem own_min (l : Launch) (Z : State) (a0 : Array Value) (hw : ∀ d ∈ tables_1, d.before a0 Z = true) (ws : List Jvm.Cond) (xa xb : Int64) (h0 : Heap) (n0 : Nat) (Z0 : n0 ≤ h0.size)  :
    MetFree l (⟨"java/lang/Math", "min", "(JJ)J"⟩ : MethodName) (head1 (Jvm.Cond.code (⟨"java/lang/Math", "min", "(JJ)J"⟩ : MethodName) jdk_29_method_70_code 4 (some .long) :: ws) ({ frames := 0, cells := 0, slots := 0, locals := 0 } : Room)) (fun av_ U => av_ = #[(.long xa), (.long xb)] ∧ Z.Warmed39 U.vm ∧ U.heap = h0) (fun _ _ _ _ _ => True) (fun _ U o U' => ∃ v L, o = .returned v ∧ own_Q_own_min Z xa xb h0 n0 v U'.heap L ∧ FrameEnd U o U' L ({ frames := 0, cells := 0, slots := 0, locals := 0 } : Room).cells ({ frames := 0, cells := 0, slots := 0, locals := 0 } : Room).slots) := by
  refine MetFree.of_bodySF (by decide +kernel) hisR ?_
  intro p e s m args below meth c s₁ Bd hml0 hP hK
  obtain ⟨rfl, hZ, hh⟩ := hP
  have hx := Bd.exec
  have hby := Bd.bytes
  have hml : c.maxLocals = 4 := hml0
  have hown : s.vm.findClass "java/lang/Math" = some m.cls := findClass_of_methodNamed Bd.named
  have hnm := (name_of_methodNamed Bd.named Bd.method).1
  have X0 : Stand p l e ({ frames := 0, cells := 0, slots := 0, locals := 0 } : Room) s m #[(.long xa), (.long xb)] below meth c s₁ [] 0 0 := Stand.of_body Bd
  have e0 : s₁.heap = h0 := by rw [← hh, Bd.state]; rfl
  have N0 := Fr.nil n0
  suffices hgo : own_Go p e below (fun o U' => ∃ v L, o = .returned v ∧ own_Q_own_min Z xa xb h0 n0 v U'.heap L ∧ FrameEnd s o U' L ({ frames := 0, cells := 0, slots := 0, locals := 0 } : Room).cells ({ frames := 0, cells := 0, slots := 0, locals := 0 } : Room).slots) (s₁.setTop (mkF m 0 #[.val (.long xa), .second, .val (.long xb), .second] [])) by
    obtain ⟨s₂, o, h1, h2, h3, h4⟩ := hgo
    exact ⟨s₂, o, castTop (own_ef5 m xa xb) h1, h2, h3, h4⟩
  show own_Go p e below _ (s₁.setTop (mkF m 0 #[.val (.long xa), .second, .val (.long xb), .second] []))
  refine own_Go.st (fun _ kt => XS.lloadN X0.here hx rfl (hb hby own_d_jdk_29_70_0) rfl kt) ?_
  show own_Go p e below _ (s₁.setTop (mkF m 1 #[.val (.long xa), .second, .val (.long xb), .second] [(.long xa)]))
  refine own_Go.st (fun _ kt => XS.lloadN X0.here hx rfl (hb hby own_d_jdk_29_70_1) rfl kt) ?_
  show own_Go p e below _ (s₁.setTop (mkF m 2 #[.val (.long xa), .second, .val (.long xb), .second] [(.long xb), (.long xa)]))
  refine own_Go.st (fun _ kt => XS.lcmp X0.here hx rfl (hb hby own_d_jdk_29_70_2) rfl kt) ?_
  show own_Go p e below _ (s₁.setTop (mkF m 3 #[.val (.long xa), .second, .val (.long xb), .second] [(.int (lcmpW xa xb))]))
  by_cases hc : xb < xa
  · refine own_Go.st (fun _ kt => XS.ifYes X0.here hx rfl (pc0 := 3) (pc' := 10) rfl (hb hby own_d_jdk_29_70_3) rfl ((if0 _ _).trans (tlt ((lw_gt _ _).mpr hc)).2.2.1) (by decide) (by decide) kt) ?_
    show own_Go p e below _ (s₁.setTop (mkF m 10 #[.val (.long xa), .second, .val (.long xb), .second] []))
    refine own_Go.st (fun _ kt => XS.lloadN X0.here hx rfl (hb hby own_d_jdk_29_70_10) rfl kt) ?_
    show own_Go p e below _ (s₁.setTop (mkF m 11 #[.val (.long xa), .second, .val (.long xb), .second] [(.long xb)]))
    exact own_retJ X0 hx Bd.notSynchronized Bd.returns (hb hby own_d_jdk_29_70_11) (by decide) (by decide) ⟨by simp [hc], N0, e0⟩
  · refine own_Go.st (fun _ kt => XS.ifNo X0.here hx rfl (hb hby own_d_jdk_29_70_3) rfl ((if0 _ _).trans (flt (mt (lw_gt _ _).mp hc)).2.2.1) kt) ?_
    show own_Go p e below _ (s₁.setTop (mkF m 6 #[.val (.long xa), .second, .val (.long xb), .second] []))
    refine own_Go.st (fun _ kt => XS.lloadN X0.here hx rfl (hb hby own_d_jdk_29_70_6) rfl kt) ?_
    show own_Go p e below _ (s₁.setTop (mkF m 7 #[.val (.long xa), .second, .val (.long xb), .second] [(.long xa)]))
    refine own_Go.st (fun _ kt => XS.goto X0.here hx rfl (pc0 := 7) (pc' := 11) rfl (hb hby own_d_jdk_29_70_7) (by decide) (by decide) kt) ?_
    show own_Go p e below _ (s₁.setTop (mkF m 11 #[.val (.long xa), .second, .val (.long xb), .second] [(.long xa)]))
    exact own_retJ X0 hx Bd.notSynchronized Bd.returns (hb hby own_d_jdk_29_70_11) (by decide) (by decide) ⟨by simp [hc], N0, e0⟩
theorem own_pn2 : plainName "com/example/wallingford/wallingford/mass/MzRangeHoldsPinLaw" = true := by first | (simp [plainName, overriddenIn]; done) | decide +kernel
theorem own_ef6 (m : MethodId) (x0 : Int32) (x1 : Int32) (x2 : Int32) (x3 : Int32) : entryFrame m #[(.int x0), (.int x1), (.int x2), (.int x3)] maxLocals = mkF m 0 #[.val (.int x0), .val (.int x1), .val (.int x2), .val (.int x3), .unset, .unset, .unset, .unset, .unset, .unset, .unset, .unset, .unset, .unset, .unset, .unset, .unset] [] := by first | (simp [entryFrame, mkF, argsToLocals, Value.category, maxLocals]; done) | rfl
theorem own_pd1 : parseMethodDescriptor "(DD)V" = some ⟨[.double, .double], none⟩ := by decide +kernel
theorem own_pd2 : parseMethodDescriptor "(D)Z" = some ⟨[.double], some .boolean⟩ := by decide +kernel
theorem own_pd3 : parseMethodDescriptor "(JJ)J" = some ⟨[.long, .long], some .long⟩ := by decide +kernel
def own_Q_own_law (Z : State) (p0 p1 p2 p3 : Int32) (h0 : Heap) (n0 : Nat) (v : Option Value) (h : Heap) (L : List Loc) : Prop := v = some (.int 1) ∧ Fr n0 L
set_option maxRecDepth 65536 in
set_option maxHeartbeats 40000000 in
theorem own_law (l : Launch) (Z : State) (a0 : Array Value) (hw : ∀ d ∈ tables_1, d.before a0 Z = true) (ws : List Jvm.Cond) (p0 p1 p2 p3 : Int32) (h0 : Heap) (n0 : Nat) (Z0 : n0 ≤ h0.size)  :
    MetFree l x (head1 (Jvm.Cond.code x code maxLocals ret :: ws) room_1) (fun av_ U => av_ = #[(.int p0), (.int p1), (.int p2), (.int p3)] ∧ Z.Warmed39 U.vm ∧ U.heap = h0) (fun _ _ _ _ _ => True) (fun _ U o U' => ∃ v L, o = .returned v ∧ own_Q_own_law Z p0 p1 p2 p3 h0 n0 v U'.heap L ∧ FrameEnd U o U' L room_1.cells room_1.slots) := by
  refine MetFree.of_bodySF (plainFor_of_name own_pn2) hisR ?_
  intro p e s m args below meth c s₁ Bd hml0 hP hK
  obtain ⟨rfl, hZ, hh⟩ := hP
  have hx := Bd.exec
  have hby := Bd.bytes
  have hml : c.maxLocals = 17 := hml0
  have hown : s.vm.findClass "com/example/wallingford/wallingford/mass/MzRangeHoldsPinLaw" = some m.cls := findClass_of_methodNamed Bd.named
  have hnm := (name_of_methodNamed Bd.named Bd.method).1
  have X0 : Stand p l e room_1 s m #[(.int p0), (.int p1), (.int p2), (.int p3)] below meth c s₁ [] 0 0 := Stand.of_body Bd
  have e0 : s₁.heap = h0 := by rw [← hh, Bd.state]; rfl
  have N0 := Fr.nil n0
  suffices hgo : own_Go p e below (fun o U' => ∃ v L, o = .returned v ∧ own_Q_own_law Z p0 p1 p2 p3 h0 n0 v U'.heap L ∧ FrameEnd s o U' L room_1.cells room_1.slots) (s₁.setTop (mkF m 0 #[.val (.int p0), .val (.int p1), .val (.int p2), .val (.int p3), .unset, .unset, .unset, .unset, .unset, .unset, .unset, .unset, .unset, .unset, .unset, .unset, .unset] [])) by
    obtain ⟨s₂, o, h1, h2, h3, h4⟩ := hgo
    exact ⟨s₂, o, castTop (own_ef6 m p0 p1 p2 p3) h1, h2, h3, h4⟩
  show own_Go p e below _ (s₁.setTop (mkF m 0 #[.val (.int p0), .val (.int p1), .val (.int p2), .val (.int p3), .unset, .unset, .unset, .unset, .unset, .unset, .unset, .unset, .unset, .unset, .unset, .unset, .unset] []))
  refine own_Go.st (fun _ kt => XS.iloadN X0.here hx rfl (hb hby at_0) rfl kt) ?_
  show own_Go p e below _ (s₁.setTop (mkF m 1 #[.val (.int p0), .val (.int p1), .val (.int p2), .val (.int p3), .unset, .unset, .unset, .unset, .unset, .unset, .unset, .unset, .unset, .unset, .unset, .unset, .unset] [(.int p0)]))
  refine own_Go.st (fun _ kt => XS.i2l X0.here hx rfl (hb hby at_1) rfl kt) ?_
  show own_Go p e below _ (s₁.setTop (mkF m 2 #[.val (.int p0), .val (.int p1), .val (.int p2), .val (.int p3), .unset, .unset, .unset, .unset, .unset, .unset, .unset, .unset, .unset, .unset, .unset, .unset, .unset] [(.long (p0.toInt64))]))
  refine own_Go.st (fun _ kt => XS.lstore X0.here hx rfl (hb hby at_2) rfl (l' := #[.val (.int p0), .val (.int p1), .val (.int p2), .val (.int p3), .val (.long (p0.toInt64)), .second, .unset, .unset, .unset, .unset, .unset, .unset, .unset, .unset, .unset, .unset, .unset]) rfl kt) ?_
  show own_Go p e below _ (s₁.setTop (mkF m 4 #[.val (.int p0), .val (.int p1), .val (.int p2), .val (.int p3), .val (.long (p0.toInt64)), .second, .unset, .unset, .unset, .unset, .unset, .unset, .unset, .unset, .unset, .unset, .unset] []))
  refine own_Go.st (fun _ kt => XS.iloadN X0.here hx rfl (hb hby at_4) rfl kt) ?_
  show own_Go p e below _ (s₁.setTop (mkF m 5 #[.val (.int p0), .val (.int p1), .val (.int p2), .val (.int p3), .val (.long (p0.toInt64)), .second, .unset, .unset, .unset, .unset, .unset, .unset, .unset, .unset, .unset, .unset, .unset] [(.int p1)]))
  refine own_Go.st (fun _ kt => XS.i2l X0.here hx rfl (hb hby at_5) rfl kt) ?_
  show own_Go p e below _ (s₁.setTop (mkF m 6 #[.val (.int p0), .val (.int p1), .val (.int p2), .val (.int p3), .val (.long (p0.toInt64)), .second, .unset, .unset, .unset, .unset, .unset, .unset, .unset, .unset, .unset, .unset, .unset] [(.long (p1.toInt64))]))
  refine own_Go.st (fun _ kt => XS.lstore X0.here hx rfl (hb hby at_6) rfl (l' := #[.val (.int p0), .val (.int p1), .val (.int p2), .val (.int p3), .val (.long (p0.toInt64)), .second, .val (.long (p1.toInt64)), .second, .unset, .unset, .unset, .unset, .unset, .unset, .unset, .unset, .unset]) rfl kt) ?_
  show own_Go p e below _ (s₁.setTop (mkF m 8 #[.val (.int p0), .val (.int p1), .val (.int p2), .val (.int p3), .val (.long (p0.toInt64)), .second, .val (.long (p1.toInt64)), .second, .unset, .unset, .unset, .unset, .unset, .unset, .unset, .unset, .unset] []))
  refine own_Go.st (fun _ kt => XS.iloadN X0.here hx rfl (hb hby at_8) rfl kt) ?_
  show own_Go p e below _ (s₁.setTop (mkF m 9 #[.val (.int p0), .val (.int p1), .val (.int p2), .val (.int p3), .val (.long (p0.toInt64)), .second, .val (.long (p1.toInt64)), .second, .unset, .unset, .unset, .unset, .unset, .unset, .unset, .unset, .unset] [(.int p2)]))
  refine own_Go.st (fun _ kt => XS.i2l X0.here hx rfl (hb hby at_9) rfl kt) ?_
  show own_Go p e below _ (s₁.setTop (mkF m 10 #[.val (.int p0), .val (.int p1), .val (.int p2), .val (.int p3), .val (.long (p0.toInt64)), .second, .val (.long (p1.toInt64)), .second, .unset, .unset, .unset, .unset, .unset, .unset, .unset, .unset, .unset] [(.long (p2.toInt64))]))
  refine own_Go.st (fun _ kt => XS.lstore X0.here hx rfl (hb hby at_10) rfl (l' := #[.val (.int p0), .val (.int p1), .val (.int p2), .val (.int p3), .val (.long (p0.toInt64)), .second, .val (.long (p1.toInt64)), .second, .val (.long (p2.toInt64)), .second, .unset, .unset, .unset, .unset, .unset, .unset, .unset]) rfl kt) ?_
  show own_Go p e below _ (s₁.setTop (mkF m 12 #[.val (.int p0), .val (.int p1), .val (.int p2), .val (.int p3), .val (.long (p0.toInt64)), .second, .val (.long (p1.toInt64)), .second, .val (.long (p2.toInt64)), .second, .unset, .unset, .unset, .unset, .unset, .unset, .unset] []))
  have ba := own_i64 p0
  have bb := own_i64 p1
  have bm := own_i64 p2
  generalize p0.toInt64 = xa at ba bb bm ⊢
  show own_Go p e below _ (s₁.setTop (mkF m 12 #[.val (.int p0), .val (.int p1), .val (.int p2), .val (.int p3), .val (.long xa), .second, .val (.long (p1.toInt64)), .second, .val (.long (p2.toInt64)), .second, .unset, .unset, .unset, .unset, .unset, .unset, .unset] []))
  generalize p1.toInt64 = xb at ba bb bm ⊢
  show own_Go p e below _ (s₁.setTop (mkF m 12 #[.val (.int p0), .val (.int p1), .val (.int p2), .val (.int p3), .val (.long xa), .second, .val (.long xb), .second, .val (.long (p2.toInt64)), .second, .unset, .unset, .unset, .unset, .unset, .unset, .unset] []))
  generalize p2.toInt64 = xm at ba bb bm ⊢
  show own_Go p e below _ (s₁.setTop (mkF m 12 #[.val (.int p0), .val (.int p1), .val (.int p2), .val (.int p3), .val (.long xa), .second, .val (.long xb), .second, .val (.long xm), .second, .unset, .unset, .unset, .unset, .unset, .unset, .unset] []))
  obtain ⟨T1, h1, X1, e1, E1, A1, D1, U1, st1⟩ := newO X0 hx hZ hown (hw _ (List.mem_of_getElem? (i := 0) rfl)) (hw _ (List.mem_of_getElem? (i := 1) rfl)) (hw _ (List.mem_of_getElem? (i := 2) rfl)) e0 (g := (mkF m 12 #[.val (.int p0), .val (.int p1), .val (.int p2), .val (.int p3), .val (.long xa), .second, .val (.long xb), .second, .val (.long xm), .second, .unset, .unset, .unset, .unset, .unset, .unset, .unset] [])) rfl (hb hby at_12) (by decide) (by decide)
  obtain ⟨ao, g1⟩ : ∃ z, z = Array.size h0 := ⟨_, rfl⟩
  rw [← g1] at A1 D1 U1 st1
  refine own_Go.st st1 ?_
  have n0_ao : n0 ≤ ao := Nat.le_trans Z0 (Nat.le_of_eq g1.symm)
  have zz2 : n0 ≤ Array.size h1 := Nat.le_trans Z0 E1.1
  have D1_lowMz : Fld Z h1 ao "com/example/wallingford/wallingford/mass/MzRange" "lowMz" "D" (.double 0) := D1 (Or.inr (hw _ (List.mem_of_getElem? (i := 15) rfl))) (ty := .double) (by decide)
  have D1_highMz : Fld Z h1 ao "com/example/wallingford/wallingford/mass/MzRange" "highMz" "D" (.double 0) := D1 (Or.inr (hw _ (List.mem_of_getElem? (i := 17) rfl))) (ty := .double) (by decide)
  show own_Go p e below _ (T1.setTop (mkF m 15 #[.val (.int p0), .val (.int p1), .val (.int p2), .val (.int p3), .val (.long xa), .second, .val (.long xb), .second, .val (.long xm), .second, .unset, .unset, .unset, .unset, .unset, .unset, .unset] [(.ref ao)]))
  refine own_Go.st (fun _ kt => XS.dup X1.here hx rfl (hb hby at_15) rfl rfl kt) ?_
  show own_Go p e below _ (T1.setTop (mkF m 16 #[.val (.int p0), .val (.int p1), .val (.int p2), .val (.int p3), .val (.long xa), .second, .val (.long xb), .second, .val (.long xm), .second, .unset, .unset, .unset, .unset, .unset, .unset, .unset] [(.ref ao), (.ref ao)]))
  refine own_Go.st (fun _ kt => XS.lload X1.here hx rfl (hb hby at_16) rfl kt) ?_
  show own_Go p e below _ (T1.setTop (mkF m 18 #[.val (.int p0), .val (.int p1), .val (.int p2), .val (.int p3), .val (.long xa), .second, .val (.long xb), .second, .val (.long xm), .second, .unset, .unset, .unset, .unset, .unset, .unset, .unset] [(.long xa), (.ref ao), (.ref ao)]))
  refine own_Go.st (fun _ kt => XS.l2dS X1.here hx rfl (hb hby at_18) rfl rfl kt) ?_
  show own_Go p e below _ (T1.setTop (mkF m 19 #[.val (.int p0), .val (.int p1), .val (.int p2), .val (.int p3), .val (.long xa), .second, .val (.long xb), .second, .val (.long xm), .second, .unset, .unset, .unset, .unset, .unset, .unset, .unset] [(.double (FP.l2d xa)), (.ref ao), (.ref ao)]))
  refine own_Go.st (fun _ kt => XS.lload X1.here hx rfl (hb hby at_19) rfl kt) ?_
  show own_Go p e below _ (T1.setTop (mkF m 21 #[.val (.int p0), .val (.int p1), .val (.int p2), .val (.int p3), .val (.long xa), .second, .val (.long xb), .second, .val (.long xm), .second, .unset, .unset, .unset, .unset, .unset, .unset, .unset] [(.long xb), (.double (FP.l2d xa)), (.ref ao), (.ref ao)]))
  refine own_Go.st (fun _ kt => XS.l2dS X1.here hx rfl (hb hby at_21) rfl rfl kt) ?_
  show own_Go p e below _ (T1.setTop (mkF m 22 #[.val (.int p0), .val (.int p1), .val (.int p2), .val (.int p3), .val (.long xa), .second, .val (.long xb), .second, .val (.long xm), .second, .unset, .unset, .unset, .unset, .unset, .unset, .unset] [(.double (FP.l2d xb)), (.double (FP.l2d xa)), (.ref ao), (.ref ao)]))
  obtain ⟨_, _, ⟨T3, L3, k3, n3⟩, -, X3, ⟨Lc3, hQ3, l3, y3, z3⟩, st3⟩ := X1.specialBack hx (y := (⟨"com/example/wallingford/wallingford/mass/MzRange", "<init>", "(DD)V"⟩ : MethodName)) rfl hown (mvT hZ (hw _ (List.mem_of_getElem? (i := 3) rfl))) (mvT hZ (hw _ (List.mem_of_getElem? (i := 4) rfl))) (mvT hZ (hw _ (List.mem_of_getElem? (i := 5) rfl))) (by decide) (backOf (W := 1) (own_mzinit l Z a0 hw [] ao (FP.l2d xa) (FP.l2d xb) h1 n0 zz2 A1 D1_lowMz D1_highMz n0_ao) hZ (hw _ (List.mem_of_getElem? (i := 5) rfl)) (hw _ (List.mem_of_getElem? (i := 2) rfl)) (by decide) (by decide)) (g := (mkF m 22 #[.val (.int p0), .val (.int p1), .val (.int p2), .val (.int p3), .val (.long xa), .second, .val (.long xb), .second, .val (.long xm), .second, .unset, .unset, .unset, .unset, .unset, .unset, .unset] [(.double (FP.l2d xb)), (.double (FP.l2d xa)), (.ref ao), (.ref ao)])) rfl (by rw [hml]; rfl) (Steps.refl _) (a := ao) (argsL := [(.double (FP.l2d xa)), (.double (FP.l2d xb))]) (rest := [(.ref ao)]) (lenOf own_pd1 rfl) rfl (by show 2 * 0 + _ ≤ _; exact Nat.le_of_eq rfl) (hb hby at_22) (fun _ _ => ⟨rfl, e1, (by decide : 1 + 0 ≤ _), (by decide : 2 + 0 ≤ _)⟩)
  dsimp only [Pt.U, Pt.locs, Pt.cells, Pt.slots] at X3 l3 y3 z3 st3 hQ3
  subst l3 y3 z3
  obtain ⟨rfl, N3q, EO3, FL3, FH3, KO3⟩ := hQ3
  have N3 := Fr.app N0 N3q
  refine own_Go.st (fun _ kt => st3.trans kt) ?_
  have zz4 : n0 ≤ Array.size T3.heap := Nat.le_trans zz2 KO3.1
  show own_Go p e below _ (T3.setTop (mkF m 25 #[.val (.int p0), .val (.int p1), .val (.int p2), .val (.int p3), .val (.long xa), .second, .val (.long xb), .second, .val (.long xm), .second, .unset, .unset, .unset, .unset, .unset, .unset, .unset] [(.ref ao)]))
  refine own_Go.st (fun _ kt => XS.astore X3.here hx rfl (hb hby at_25) rfl rfl (l' := #[.val (.int p0), .val (.int p1), .val (.int p2), .val (.int p3), .val (.long xa), .second, .val (.long xb), .second, .val (.long xm), .second, .val (.ref ao), .unset, .unset, .unset, .unset, .unset, .unset]) rfl kt) ?_
  show own_Go p e below _ (T3.setTop (mkF m 27 #[.val (.int p0), .val (.int p1), .val (.int p2), .val (.int p3), .val (.long xa), .second, .val (.long xb), .second, .val (.long xm), .second, .val (.ref ao), .unset, .unset, .unset, .unset, .unset, .unset] []))
  refine own_Go.st (fun _ kt => XS.iloadN X3.here hx rfl (hb hby at_27) rfl kt) ?_
  show own_Go p e below _ (T3.setTop (mkF m 28 #[.val (.int p0), .val (.int p1), .val (.int p2), .val (.int p3), .val (.long xa), .second, .val (.long xb), .second, .val (.long xm), .second, .val (.ref ao), .unset, .unset, .unset, .unset, .unset, .unset] [(.int p3)]))
  refine own_Go.st (fun _ kt => XS.bipush X3.here hx rfl (hb hby at_28) kt) ?_
  show own_Go p e below _ (T3.setTop (mkF m 30 #[.val (.int p0), .val (.int p1), .val (.int p2), .val (.int p3), .val (.long xa), .second, .val (.long xb), .second, .val (.long xm), .second, .val (.ref ao), .unset, .unset, .unset, .unset, .unset, .unset] [(.int (7 : Int32)), (.int p3)]))
  refine own_Go.st (fun _ kt => XS.iand X3.here hx rfl (hb hby at_30) rfl kt) ?_
  show own_Go p e below _ (T3.setTop (mkF m 31 #[.val (.int p0), .val (.int p1), .val (.int p2), .val (.int p3), .val (.long xa), .second, .val (.long xb), .second, .val (.long xm), .second, .val (.ref ao), .unset, .unset, .unset, .unset, .unset, .unset] [(.int (p3 &&& (7 : Int32)))]))
  refine own_Go.st (fun _ kt => XS.istore X3.here hx rfl (hb hby at_31) rfl (l' := #[.val (.int p0), .val (.int p1), .val (.int p2), .val (.int p3), .val (.long xa), .second, .val (.long xb), .second, .val (.long xm), .second, .val (.ref ao), .val (.int (p3 &&& (7 : Int32))), .unset, .unset, .unset, .unset, .unset]) rfl kt) ?_
  show own_Go p e below _ (T3.setTop (mkF m 33 #[.val (.int p0), .val (.int p1), .val (.int p2), .val (.int p3), .val (.long xa), .second, .val (.long xb), .second, .val (.long xm), .second, .val (.ref ao), .val (.int (p3 &&& (7 : Int32))), .unset, .unset, .unset, .unset, .unset] []))
  generalize hxk : (p3 &&& (7 : Int32)) = xk
  show own_Go p e below _ (T3.setTop (mkF m 33 #[.val (.int p0), .val (.int p1), .val (.int p2), .val (.int p3), .val (.long xa), .second, .val (.long xb), .second, .val (.long xm), .second, .val (.ref ao), .val (.int xk), .unset, .unset, .unset, .unset, .unset] []))
  have J253 : ∀ (T5 : State) (lc5 : List Loc) (X5 : Stand p l e room_1 s m #[(.int p0), (.int p1), (.int p2), (.int p3)] below meth c T5 lc5 1 2) (e5 : T5.heap = T3.heap) (N5 : Fr n0 lc5) (xd : UInt64) (ex : Int32) (hh : own_hv (FP.l2d xa) (FP.l2d xb) xd = ex), own_Go p e below (fun o U' => ∃ v L, o = .returned v ∧ own_Q_own_law Z p0 p1 p2 p3 h0 n0 v U'.heap L ∧ FrameEnd s o U' L room_1.cells room_1.slots) (T5.setTop (mkF m 253 #[.val (.int p0), .val (.int p1), .val (.int p2), .val (.int p3), .val (.long xa), .second, .val (.long xb), .second, .val (.long xm), .second, .val (.ref ao), .val (.int xk), .val (.double xd), .second, .val (.int ex), .unset, .unset] [])) := by
    intro T5 lc5 X5 e5 N5 xd ex hh
    show own_Go p e below _ (T5.setTop (mkF m 253 #[.val (.int p0), .val (.int p1), .val (.int p2), .val (.int p3), .val (.long xa), .second, .val (.long xb), .second, .val (.long xm), .second, .val (.ref ao), .val (.int xk), .val (.double xd), .second, .val (.int ex), .unset, .unset] []))
    refine own_Go.st (fun _ kt => XS.aload X5.here hx rfl (hb hby at_253) rfl rfl kt) ?_
    show own_Go p e below _ (T5.setTop (mkF m 255 #[.val (.int p0), .val (.int p1), .val (.int p2), .val (.int p3), .val (.long xa), .second, .val (.long xb), .second, .val (.long xm), .second, .val (.ref ao), .val (.int xk), .val (.double xd), .second, .val (.int ex), .unset, .unset] [(.ref ao)]))
    refine own_Go.st (fun _ kt => XS.dload X5.here hx rfl (hb hby at_255) rfl kt) ?_
    show own_Go p e below _ (T5.setTop (mkF m 257 #[.val (.int p0), .val (.int p1), .val (.int p2), .val (.int p3), .val (.long xa), .second, .val (.long xb), .second, .val (.long xm), .second, .val (.ref ao), .val (.int xk), .val (.double xd), .second, .val (.int ex), .unset, .unset] [(.double xd), (.ref ao)]))
    obtain ⟨cq6, kq6, q6a, q6b, q6c⟩ := isOf hZ e5 EO3
    obtain ⟨_, _, ⟨T6, L6, k6, n6⟩, -, X6, ⟨Lc6, hQ6, l6, y6, z6⟩, st6⟩ := X5.virtualBack hx (y := (⟨"com/example/wallingford/wallingford/mass/MzRange", "holds", "(D)Z"⟩ : MethodName)) (z := (⟨"com/example/wallingford/wallingford/mass/MzRange", "holds", "(D)Z"⟩ : MethodName)) hown (mvT hZ (hw _ (List.mem_of_getElem? (i := 18) rfl))) (mvT hZ (hw _ (List.mem_of_getElem? (i := 19) rfl))) (notFace_of_selects (args := #[]) (mvT hZ (hw _ (List.mem_of_getElem? (i := 21) rfl)))) (mvT hZ (hw _ (List.mem_of_getElem? (i := 21) rfl))) (mvT hZ (hw _ (List.mem_of_getElem? (i := 20) rfl))) (by decide) (backOf (W := 0) (own_holds l Z a0 hw [] ao (FP.l2d xa) (FP.l2d xb) xd T3.heap n0 zz4 FL3 FH3) hZ (hw _ (List.mem_of_getElem? (i := 22) rfl)) (hw _ (List.mem_of_getElem? (i := 2) rfl)) (by decide) (by decide)) q6a q6c (g := (mkF m 257 #[.val (.int p0), .val (.int p1), .val (.int p2), .val (.int p3), .val (.long xa), .second, .val (.long xb), .second, .val (.long xm), .second, .val (.ref ao), .val (.int xk), .val (.double xd), .second, .val (.int ex), .unset, .unset] [(.double xd), (.ref ao)])) rfl (by rw [hml]; rfl) (Steps.refl _) (argsL := [(.double xd)]) (rest := []) (lenOf own_pd2 rfl) rfl (by show 2 * 0 + _ ≤ _; exact Nat.le_of_eq rfl) (hb hby at_257) (fun _ _ => ⟨rfl, e5, (by decide : 1 + 0 ≤ _), (by decide : 2 + 0 ≤ _)⟩)
    dsimp only [Pt.U, Pt.locs, Pt.cells, Pt.slots] at X6 l6 y6 z6 st6 hQ6
    subst l6 y6 z6
    obtain ⟨rfl, N6q, hh6⟩ := hQ6
    have N6 := Fr.app N5 N6q
    refine own_Go.st (fun _ kt => st6.trans kt) ?_
    show own_Go p e below _ (T6.setTop (mkF m 260 #[.val (.int p0), .val (.int p1), .val (.int p2), .val (.int p3), .val (.long xa), .second, .val (.long xb), .second, .val (.long xm), .second, .val (.ref ao), .val (.int xk), .val (.double xd), .second, .val (.int ex), .unset, .unset] [(.int (own_hv (FP.l2d xa) (FP.l2d xb) xd))]))
    refine own_Go.st (fun _ kt => XS.iload X6.here hx rfl (hb hby at_260) rfl kt) ?_
    show own_Go p e below _ (T6.setTop (mkF m 262 #[.val (.int p0), .val (.int p1), .val (.int p2), .val (.int p3), .val (.long xa), .second, .val (.long xb), .second, .val (.long xm), .second, .val (.ref ao), .val (.int xk), .val (.double xd), .second, .val (.int ex), .unset, .unset] [(.int ex), (.int (own_hv (FP.l2d xa) (FP.l2d xb) xd))]))
    refine own_Go.st (fun _ kt => XS.icmpNo X6.here hx rfl (hb hby at_262) rfl (teq hh).2 kt) ?_
    show own_Go p e below _ (T6.setTop (mkF m 265 #[.val (.int p0), .val (.int p1), .val (.int p2), .val (.int p3), .val (.long xa), .second, .val (.long xb), .second, .val (.long xm), .second, .val (.ref ao), .val (.int xk), .val (.double xd), .second, .val (.int ex), .unset, .unset] []))
    refine own_Go.st (fun _ kt => XS.iconst X6.here hx rfl (hb hby at_265) kt) ?_
    show own_Go p e below _ (T6.setTop (mkF m 266 #[.val (.int p0), .val (.int p1), .val (.int p2), .val (.int p3), .val (.long xa), .second, .val (.long xb), .second, .val (.long xm), .second, .val (.ref ao), .val (.int xk), .val (.double xd), .second, .val (.int ex), .unset, .unset] [(.int (1 : Int32))]))
    refine own_Go.st (fun _ kt => XS.goto X6.here hx rfl (pc0 := 266) (pc' := 270) rfl (hb hby at_266) (by decide) (by decide) kt) ?_
    show own_Go p e below _ (T6.setTop (mkF m 270 #[.val (.int p0), .val (.int p1), .val (.int p2), .val (.int p3), .val (.long xa), .second, .val (.long xb), .second, .val (.long xm), .second, .val (.ref ao), .val (.int xk), .val (.double xd), .second, .val (.int ex), .unset, .unset] [(.int (1 : Int32))]))
    exact own_retZ X6 hx Bd.notSynchronized Bd.returns (Or.inr rfl) (hb hby at_270) (by decide) (by decide) ⟨rfl, N6⟩
  have J253q : ∀ (T7 : State) (lc7 : List Loc) (X7 : Stand p l e room_1 s m #[(.int p0), (.int p1), (.int p2), (.int p3)] below meth c T7 lc7 1 2) (e7 : T7.heap = T3.heap) (N7 : Fr n0 lc7) (xd : UInt64) (ex : Int32) (xq : Int64) (hh : own_hv (FP.l2d xa) (FP.l2d xb) xd = ex), own_Go p e below (fun o U' => ∃ v L, o = .returned v ∧ own_Q_own_law Z p0 p1 p2 p3 h0 n0 v U'.heap L ∧ FrameEnd s o U' L room_1.cells room_1.slots) (T7.setTop (mkF m 253 #[.val (.int p0), .val (.int p1), .val (.int p2), .val (.int p3), .val (.long xa), .second, .val (.long xb), .second, .val (.long xm), .second, .val (.ref ao), .val (.int xk), .val (.double xd), .second, .val (.int ex), .val (.long xq), .second] [])) := by
    intro T7 lc7 X7 e7 N7 xd ex xq hh
    show own_Go p e below _ (T7.setTop (mkF m 253 #[.val (.int p0), .val (.int p1), .val (.int p2), .val (.int p3), .val (.long xa), .second, .val (.long xb), .second, .val (.long xm), .second, .val (.ref ao), .val (.int xk), .val (.double xd), .second, .val (.int ex), .val (.long xq), .second] []))
    refine own_Go.st (fun _ kt => XS.aload X7.here hx rfl (hb hby at_253) rfl rfl kt) ?_
    show own_Go p e below _ (T7.setTop (mkF m 255 #[.val (.int p0), .val (.int p1), .val (.int p2), .val (.int p3), .val (.long xa), .second, .val (.long xb), .second, .val (.long xm), .second, .val (.ref ao), .val (.int xk), .val (.double xd), .second, .val (.int ex), .val (.long xq), .second] [(.ref ao)]))
    refine own_Go.st (fun _ kt => XS.dload X7.here hx rfl (hb hby at_255) rfl kt) ?_
    show own_Go p e below _ (T7.setTop (mkF m 257 #[.val (.int p0), .val (.int p1), .val (.int p2), .val (.int p3), .val (.long xa), .second, .val (.long xb), .second, .val (.long xm), .second, .val (.ref ao), .val (.int xk), .val (.double xd), .second, .val (.int ex), .val (.long xq), .second] [(.double xd), (.ref ao)]))
    obtain ⟨cq8, kq8, q8a, q8b, q8c⟩ := isOf hZ e7 EO3
    obtain ⟨_, _, ⟨T8, L8, k8, n8⟩, -, X8, ⟨Lc8, hQ8, l8, y8, z8⟩, st8⟩ := X7.virtualBack hx (y := (⟨"com/example/wallingford/wallingford/mass/MzRange", "holds", "(D)Z"⟩ : MethodName)) (z := (⟨"com/example/wallingford/wallingford/mass/MzRange", "holds", "(D)Z"⟩ : MethodName)) hown (mvT hZ (hw _ (List.mem_of_getElem? (i := 18) rfl))) (mvT hZ (hw _ (List.mem_of_getElem? (i := 19) rfl))) (notFace_of_selects (args := #[]) (mvT hZ (hw _ (List.mem_of_getElem? (i := 21) rfl)))) (mvT hZ (hw _ (List.mem_of_getElem? (i := 21) rfl))) (mvT hZ (hw _ (List.mem_of_getElem? (i := 20) rfl))) (by decide) (backOf (W := 0) (own_holds l Z a0 hw [] ao (FP.l2d xa) (FP.l2d xb) xd T3.heap n0 zz4 FL3 FH3) hZ (hw _ (List.mem_of_getElem? (i := 22) rfl)) (hw _ (List.mem_of_getElem? (i := 2) rfl)) (by decide) (by decide)) q8a q8c (g := (mkF m 257 #[.val (.int p0), .val (.int p1), .val (.int p2), .val (.int p3), .val (.long xa), .second, .val (.long xb), .second, .val (.long xm), .second, .val (.ref ao), .val (.int xk), .val (.double xd), .second, .val (.int ex), .val (.long xq), .second] [(.double xd), (.ref ao)])) rfl (by rw [hml]; rfl) (Steps.refl _) (argsL := [(.double xd)]) (rest := []) (lenOf own_pd2 rfl) rfl (by show 2 * 0 + _ ≤ _; exact Nat.le_of_eq rfl) (hb hby at_257) (fun _ _ => ⟨rfl, e7, (by decide : 1 + 0 ≤ _), (by decide : 2 + 0 ≤ _)⟩)
    dsimp only [Pt.U, Pt.locs, Pt.cells, Pt.slots] at X8 l8 y8 z8 st8 hQ8
    subst l8 y8 z8
    obtain ⟨rfl, N8q, hh8⟩ := hQ8
    have N8 := Fr.app N7 N8q
    refine own_Go.st (fun _ kt => st8.trans kt) ?_
    show own_Go p e below _ (T8.setTop (mkF m 260 #[.val (.int p0), .val (.int p1), .val (.int p2), .val (.int p3), .val (.long xa), .second, .val (.long xb), .second, .val (.long xm), .second, .val (.ref ao), .val (.int xk), .val (.double xd), .second, .val (.int ex), .val (.long xq), .second] [(.int (own_hv (FP.l2d xa) (FP.l2d xb) xd))]))
    refine own_Go.st (fun _ kt => XS.iload X8.here hx rfl (hb hby at_260) rfl kt) ?_
    show own_Go p e below _ (T8.setTop (mkF m 262 #[.val (.int p0), .val (.int p1), .val (.int p2), .val (.int p3), .val (.long xa), .second, .val (.long xb), .second, .val (.long xm), .second, .val (.ref ao), .val (.int xk), .val (.double xd), .second, .val (.int ex), .val (.long xq), .second] [(.int ex), (.int (own_hv (FP.l2d xa) (FP.l2d xb) xd))]))
    refine own_Go.st (fun _ kt => XS.icmpNo X8.here hx rfl (hb hby at_262) rfl (teq hh).2 kt) ?_
    show own_Go p e below _ (T8.setTop (mkF m 265 #[.val (.int p0), .val (.int p1), .val (.int p2), .val (.int p3), .val (.long xa), .second, .val (.long xb), .second, .val (.long xm), .second, .val (.ref ao), .val (.int xk), .val (.double xd), .second, .val (.int ex), .val (.long xq), .second] []))
    refine own_Go.st (fun _ kt => XS.iconst X8.here hx rfl (hb hby at_265) kt) ?_
    show own_Go p e below _ (T8.setTop (mkF m 266 #[.val (.int p0), .val (.int p1), .val (.int p2), .val (.int p3), .val (.long xa), .second, .val (.long xb), .second, .val (.long xm), .second, .val (.ref ao), .val (.int xk), .val (.double xd), .second, .val (.int ex), .val (.long xq), .second] [(.int (1 : Int32))]))
    refine own_Go.st (fun _ kt => XS.goto X8.here hx rfl (pc0 := 266) (pc' := 270) rfl (hb hby at_266) (by decide) (by decide) kt) ?_
    show own_Go p e below _ (T8.setTop (mkF m 270 #[.val (.int p0), .val (.int p1), .val (.int p2), .val (.int p3), .val (.long xa), .second, .val (.long xb), .second, .val (.long xm), .second, .val (.ref ao), .val (.int xk), .val (.double xd), .second, .val (.int ex), .val (.long xq), .second] [(.int (1 : Int32))]))
    exact own_retZ X8 hx Bd.notSynchronized Bd.returns (Or.inr rfl) (hb hby at_270) (by decide) (by decide) ⟨rfl, N8⟩
  refine own_Go.st (fun _ kt => XS.iload X3.here hx rfl (hb hby at_33) rfl kt) ?_
  show own_Go p e below _ (T3.setTop (mkF m 35 #[.val (.int p0), .val (.int p1), .val (.int p2), .val (.int p3), .val (.long xa), .second, .val (.long xb), .second, .val (.long xm), .second, .val (.ref ao), .val (.int xk), .unset, .unset, .unset, .unset, .unset] [(.int xk)]))
  by_cases k0 : xk = (0 : Int32)
  · refine own_Go.st (fun _ kt => XS.ifNo X3.here hx rfl (hb hby at_35) rfl ((if0 _ _).trans (teq k0).2) kt) ?_
    show own_Go p e below _ (T3.setTop (mkF m 38 #[.val (.int p0), .val (.int p1), .val (.int p2), .val (.int p3), .val (.long xa), .second, .val (.long xb), .second, .val (.long xm), .second, .val (.ref ao), .val (.int xk), .unset, .unset, .unset, .unset, .unset] []))
    refine own_Go.st (fun _ kt => XS.lload X3.here hx rfl (hb hby at_38) rfl kt) ?_
    show own_Go p e below _ (T3.setTop (mkF m 40 #[.val (.int p0), .val (.int p1), .val (.int p2), .val (.int p3), .val (.long xa), .second, .val (.long xb), .second, .val (.long xm), .second, .val (.ref ao), .val (.int xk), .unset, .unset, .unset, .unset, .unset] [(.long xa)]))
    refine own_Go.st (fun _ kt => XS.l2dS X3.here hx rfl (hb hby at_40) rfl rfl kt) ?_
    show own_Go p e below _ (T3.setTop (mkF m 41 #[.val (.int p0), .val (.int p1), .val (.int p2), .val (.int p3), .val (.long xa), .second, .val (.long xb), .second, .val (.long xm), .second, .val (.ref ao), .val (.int xk), .unset, .unset, .unset, .unset, .unset] [(.double (FP.l2d xa))]))
    refine own_Go.st (fun _ kt => XS.dstore X3.here hx rfl (hb hby at_41) rfl (l' := #[.val (.int p0), .val (.int p1), .val (.int p2), .val (.int p3), .val (.long xa), .second, .val (.long xb), .second, .val (.long xm), .second, .val (.ref ao), .val (.int xk), .val (.double (FP.l2d xa)), .second, .unset, .unset, .unset]) rfl kt) ?_
    show own_Go p e below _ (T3.setTop (mkF m 43 #[.val (.int p0), .val (.int p1), .val (.int p2), .val (.int p3), .val (.long xa), .second, .val (.long xb), .second, .val (.long xm), .second, .val (.ref ao), .val (.int xk), .val (.double (FP.l2d xa)), .second, .unset, .unset, .unset] []))
    refine own_Go.st (fun _ kt => XS.lload X3.here hx rfl (hb hby at_43) rfl kt) ?_
    show own_Go p e below _ (T3.setTop (mkF m 45 #[.val (.int p0), .val (.int p1), .val (.int p2), .val (.int p3), .val (.long xa), .second, .val (.long xb), .second, .val (.long xm), .second, .val (.ref ao), .val (.int xk), .val (.double (FP.l2d xa)), .second, .unset, .unset, .unset] [(.long xa)]))
    refine own_Go.st (fun _ kt => XS.lload X3.here hx rfl (hb hby at_45) rfl kt) ?_
    show own_Go p e below _ (T3.setTop (mkF m 47 #[.val (.int p0), .val (.int p1), .val (.int p2), .val (.int p3), .val (.long xa), .second, .val (.long xb), .second, .val (.long xm), .second, .val (.ref ao), .val (.int xk), .val (.double (FP.l2d xa)), .second, .unset, .unset, .unset] [(.long xb), (.long xa)]))
    refine own_Go.st (fun _ kt => XS.lcmp X3.here hx rfl (hb hby at_47) rfl kt) ?_
    show own_Go p e below _ (T3.setTop (mkF m 48 #[.val (.int p0), .val (.int p1), .val (.int p2), .val (.int p3), .val (.long xa), .second, .val (.long xb), .second, .val (.long xm), .second, .val (.ref ao), .val (.int xk), .val (.double (FP.l2d xa)), .second, .unset, .unset, .unset] [(.int (lcmpW xa xb))]))
    by_cases hle : xb < xa
    · refine own_Go.st (fun _ kt => XS.ifYes X3.here hx rfl (pc0 := 48) (pc' := 55) rfl (hb hby at_48) rfl ((if0 _ _).trans (tlt ((lw_gt _ _).mpr hle)).2.2.1) (by decide) (by decide) kt) ?_
      show own_Go p e below _ (T3.setTop (mkF m 55 #[.val (.int p0), .val (.int p1), .val (.int p2), .val (.int p3), .val (.long xa), .second, .val (.long xb), .second, .val (.long xm), .second, .val (.ref ao), .val (.int xk), .val (.double (FP.l2d xa)), .second, .unset, .unset, .unset] []))
      refine own_Go.st (fun _ kt => XS.iconst X3.here hx rfl (hb hby at_55) kt) ?_
      show own_Go p e below _ (T3.setTop (mkF m 56 #[.val (.int p0), .val (.int p1), .val (.int p2), .val (.int p3), .val (.long xa), .second, .val (.long xb), .second, .val (.long xm), .second, .val (.ref ao), .val (.int xk), .val (.double (FP.l2d xa)), .second, .unset, .unset, .unset] [(.int (0 : Int32))]))
      refine own_Go.st (fun _ kt => XS.istore X3.here hx rfl (hb hby at_56) rfl (l' := #[.val (.int p0), .val (.int p1), .val (.int p2), .val (.int p3), .val (.long xa), .second, .val (.long xb), .second, .val (.long xm), .second, .val (.ref ao), .val (.int xk), .val (.double (FP.l2d xa)), .second, .val (.int (0 : Int32)), .unset, .unset]) rfl kt) ?_
      show own_Go p e below _ (T3.setTop (mkF m 58 #[.val (.int p0), .val (.int p1), .val (.int p2), .val (.int p3), .val (.long xa), .second, .val (.long xb), .second, .val (.long xm), .second, .val (.ref ao), .val (.int xk), .val (.double (FP.l2d xa)), .second, .val (.int (0 : Int32)), .unset, .unset] []))
      refine own_Go.st (fun _ kt => XS.goto X3.here hx rfl (pc0 := 58) (pc' := 253) rfl (hb hby at_58) (by decide) (by decide) kt) ?_
      show own_Go p e below _ (T3.setTop (mkF m 253 #[.val (.int p0), .val (.int p1), .val (.int p2), .val (.int p3), .val (.long xa), .second, .val (.long xb), .second, .val (.long xm), .second, .val (.ref ao), .val (.int xk), .val (.double (FP.l2d xa)), .second, .val (.int (0 : Int32)), .unset, .unset] []))
      exact J253 _ _ X3 rfl N3 _ _ (own_hv0 (own_B ba) (own_B bb) (own_B ba) (by rw [Int64.lt_iff_toInt_lt, Int64.lt_iff_toInt_lt] at *; omega))
    · refine own_Go.st (fun _ kt => XS.ifNo X3.here hx rfl (hb hby at_48) rfl ((if0 _ _).trans (flt (mt (lw_gt _ _).mp hle)).2.2.1) kt) ?_
      show own_Go p e below _ (T3.setTop (mkF m 51 #[.val (.int p0), .val (.int p1), .val (.int p2), .val (.int p3), .val (.long xa), .second, .val (.long xb), .second, .val (.long xm), .second, .val (.ref ao), .val (.int xk), .val (.double (FP.l2d xa)), .second, .unset, .unset, .unset] []))
      refine own_Go.st (fun _ kt => XS.iconst X3.here hx rfl (hb hby at_51) kt) ?_
      show own_Go p e below _ (T3.setTop (mkF m 52 #[.val (.int p0), .val (.int p1), .val (.int p2), .val (.int p3), .val (.long xa), .second, .val (.long xb), .second, .val (.long xm), .second, .val (.ref ao), .val (.int xk), .val (.double (FP.l2d xa)), .second, .unset, .unset, .unset] [(.int (1 : Int32))]))
      refine own_Go.st (fun _ kt => XS.goto X3.here hx rfl (pc0 := 52) (pc' := 56) rfl (hb hby at_52) (by decide) (by decide) kt) ?_
      show own_Go p e below _ (T3.setTop (mkF m 56 #[.val (.int p0), .val (.int p1), .val (.int p2), .val (.int p3), .val (.long xa), .second, .val (.long xb), .second, .val (.long xm), .second, .val (.ref ao), .val (.int xk), .val (.double (FP.l2d xa)), .second, .unset, .unset, .unset] [(.int (1 : Int32))]))
      refine own_Go.st (fun _ kt => XS.istore X3.here hx rfl (hb hby at_56) rfl (l' := #[.val (.int p0), .val (.int p1), .val (.int p2), .val (.int p3), .val (.long xa), .second, .val (.long xb), .second, .val (.long xm), .second, .val (.ref ao), .val (.int xk), .val (.double (FP.l2d xa)), .second, .val (.int (1 : Int32)), .unset, .unset]) rfl kt) ?_
      show own_Go p e below _ (T3.setTop (mkF m 58 #[.val (.int p0), .val (.int p1), .val (.int p2), .val (.int p3), .val (.long xa), .second, .val (.long xb), .second, .val (.long xm), .second, .val (.ref ao), .val (.int xk), .val (.double (FP.l2d xa)), .second, .val (.int (1 : Int32)), .unset, .unset] []))
      refine own_Go.st (fun _ kt => XS.goto X3.here hx rfl (pc0 := 58) (pc' := 253) rfl (hb hby at_58) (by decide) (by decide) kt) ?_
      show own_Go p e below _ (T3.setTop (mkF m 253 #[.val (.int p0), .val (.int p1), .val (.int p2), .val (.int p3), .val (.long xa), .second, .val (.long xb), .second, .val (.long xm), .second, .val (.ref ao), .val (.int xk), .val (.double (FP.l2d xa)), .second, .val (.int (1 : Int32)), .unset, .unset] []))
      exact J253 _ _ X3 rfl N3 _ _ (own_hv1 (own_B ba) (own_B bb) (own_B ba) (by rw [Int64.lt_iff_toInt_lt] at *; omega) (by rw [Int64.lt_iff_toInt_lt] at *; omega))
  · refine own_Go.st (fun _ kt => XS.ifYes X3.here hx rfl (pc0 := 35) (pc' := 61) rfl (hb hby at_35) rfl ((if0 _ _).trans (feq k0).2) (by decide) (by decide) kt) ?_
    show own_Go p e below _ (T3.setTop (mkF m 61 #[.val (.int p0), .val (.int p1), .val (.int p2), .val (.int p3), .val (.long xa), .second, .val (.long xb), .second, .val (.long xm), .second, .val (.ref ao), .val (.int xk), .unset, .unset, .unset, .unset, .unset] []))
    refine own_Go.st (fun _ kt => XS.iload X3.here hx rfl (hb hby at_61) rfl kt) ?_
    show own_Go p e below _ (T3.setTop (mkF m 63 #[.val (.int p0), .val (.int p1), .val (.int p2), .val (.int p3), .val (.long xa), .second, .val (.long xb), .second, .val (.long xm), .second, .val (.ref ao), .val (.int xk), .unset, .unset, .unset, .unset, .unset] [(.int xk)]))
    refine own_Go.st (fun _ kt => XS.iconst X3.here hx rfl (hb hby at_63) kt) ?_
    show own_Go p e below _ (T3.setTop (mkF m 64 #[.val (.int p0), .val (.int p1), .val (.int p2), .val (.int p3), .val (.long xa), .second, .val (.long xb), .second, .val (.long xm), .second, .val (.ref ao), .val (.int xk), .unset, .unset, .unset, .unset, .unset] [(.int (1 : Int32)), (.int xk)]))
    by_cases k1 : xk = (1 : Int32)
    · refine own_Go.st (fun _ kt => XS.icmpNo X3.here hx rfl (hb hby at_64) rfl (teq k1).2 kt) ?_
      show own_Go p e below _ (T3.setTop (mkF m 67 #[.val (.int p0), .val (.int p1), .val (.int p2), .val (.int p3), .val (.long xa), .second, .val (.long xb), .second, .val (.long xm), .second, .val (.ref ao), .val (.int xk), .unset, .unset, .unset, .unset, .unset] []))
      refine own_Go.st (fun _ kt => XS.lload X3.here hx rfl (hb hby at_67) rfl kt) ?_
      show own_Go p e below _ (T3.setTop (mkF m 69 #[.val (.int p0), .val (.int p1), .val (.int p2), .val (.int p3), .val (.long xa), .second, .val (.long xb), .second, .val (.long xm), .second, .val (.ref ao), .val (.int xk), .unset, .unset, .unset, .unset, .unset] [(.long xb)]))
      refine own_Go.st (fun _ kt => XS.l2dS X3.here hx rfl (hb hby at_69) rfl rfl kt) ?_
      show own_Go p e below _ (T3.setTop (mkF m 70 #[.val (.int p0), .val (.int p1), .val (.int p2), .val (.int p3), .val (.long xa), .second, .val (.long xb), .second, .val (.long xm), .second, .val (.ref ao), .val (.int xk), .unset, .unset, .unset, .unset, .unset] [(.double (FP.l2d xb))]))
      refine own_Go.st (fun _ kt => XS.dstore X3.here hx rfl (hb hby at_70) rfl (l' := #[.val (.int p0), .val (.int p1), .val (.int p2), .val (.int p3), .val (.long xa), .second, .val (.long xb), .second, .val (.long xm), .second, .val (.ref ao), .val (.int xk), .val (.double (FP.l2d xb)), .second, .unset, .unset, .unset]) rfl kt) ?_
      show own_Go p e below _ (T3.setTop (mkF m 72 #[.val (.int p0), .val (.int p1), .val (.int p2), .val (.int p3), .val (.long xa), .second, .val (.long xb), .second, .val (.long xm), .second, .val (.ref ao), .val (.int xk), .val (.double (FP.l2d xb)), .second, .unset, .unset, .unset] []))
      refine own_Go.st (fun _ kt => XS.lload X3.here hx rfl (hb hby at_72) rfl kt) ?_
      show own_Go p e below _ (T3.setTop (mkF m 74 #[.val (.int p0), .val (.int p1), .val (.int p2), .val (.int p3), .val (.long xa), .second, .val (.long xb), .second, .val (.long xm), .second, .val (.ref ao), .val (.int xk), .val (.double (FP.l2d xb)), .second, .unset, .unset, .unset] [(.long xa)]))
      refine own_Go.st (fun _ kt => XS.lload X3.here hx rfl (hb hby at_74) rfl kt) ?_
      show own_Go p e below _ (T3.setTop (mkF m 76 #[.val (.int p0), .val (.int p1), .val (.int p2), .val (.int p3), .val (.long xa), .second, .val (.long xb), .second, .val (.long xm), .second, .val (.ref ao), .val (.int xk), .val (.double (FP.l2d xb)), .second, .unset, .unset, .unset] [(.long xb), (.long xa)]))
      refine own_Go.st (fun _ kt => XS.lcmp X3.here hx rfl (hb hby at_76) rfl kt) ?_
      show own_Go p e below _ (T3.setTop (mkF m 77 #[.val (.int p0), .val (.int p1), .val (.int p2), .val (.int p3), .val (.long xa), .second, .val (.long xb), .second, .val (.long xm), .second, .val (.ref ao), .val (.int xk), .val (.double (FP.l2d xb)), .second, .unset, .unset, .unset] [(.int (lcmpW xa xb))]))
      by_cases hle : xb < xa
      · refine own_Go.st (fun _ kt => XS.ifYes X3.here hx rfl (pc0 := 77) (pc' := 84) rfl (hb hby at_77) rfl ((if0 _ _).trans (tlt ((lw_gt _ _).mpr hle)).2.2.1) (by decide) (by decide) kt) ?_
        show own_Go p e below _ (T3.setTop (mkF m 84 #[.val (.int p0), .val (.int p1), .val (.int p2), .val (.int p3), .val (.long xa), .second, .val (.long xb), .second, .val (.long xm), .second, .val (.ref ao), .val (.int xk), .val (.double (FP.l2d xb)), .second, .unset, .unset, .unset] []))
        refine own_Go.st (fun _ kt => XS.iconst X3.here hx rfl (hb hby at_84) kt) ?_
        show own_Go p e below _ (T3.setTop (mkF m 85 #[.val (.int p0), .val (.int p1), .val (.int p2), .val (.int p3), .val (.long xa), .second, .val (.long xb), .second, .val (.long xm), .second, .val (.ref ao), .val (.int xk), .val (.double (FP.l2d xb)), .second, .unset, .unset, .unset] [(.int (0 : Int32))]))
        refine own_Go.st (fun _ kt => XS.istore X3.here hx rfl (hb hby at_85) rfl (l' := #[.val (.int p0), .val (.int p1), .val (.int p2), .val (.int p3), .val (.long xa), .second, .val (.long xb), .second, .val (.long xm), .second, .val (.ref ao), .val (.int xk), .val (.double (FP.l2d xb)), .second, .val (.int (0 : Int32)), .unset, .unset]) rfl kt) ?_
        show own_Go p e below _ (T3.setTop (mkF m 87 #[.val (.int p0), .val (.int p1), .val (.int p2), .val (.int p3), .val (.long xa), .second, .val (.long xb), .second, .val (.long xm), .second, .val (.ref ao), .val (.int xk), .val (.double (FP.l2d xb)), .second, .val (.int (0 : Int32)), .unset, .unset] []))
        refine own_Go.st (fun _ kt => XS.goto X3.here hx rfl (pc0 := 87) (pc' := 253) rfl (hb hby at_87) (by decide) (by decide) kt) ?_
        show own_Go p e below _ (T3.setTop (mkF m 253 #[.val (.int p0), .val (.int p1), .val (.int p2), .val (.int p3), .val (.long xa), .second, .val (.long xb), .second, .val (.long xm), .second, .val (.ref ao), .val (.int xk), .val (.double (FP.l2d xb)), .second, .val (.int (0 : Int32)), .unset, .unset] []))
        exact J253 _ _ X3 rfl N3 _ _ (own_hv0 (own_B ba) (own_B bb) (own_B bb) (by rw [Int64.lt_iff_toInt_lt, Int64.lt_iff_toInt_lt] at *; omega))
      · refine own_Go.st (fun _ kt => XS.ifNo X3.here hx rfl (hb hby at_77) rfl ((if0 _ _).trans (flt (mt (lw_gt _ _).mp hle)).2.2.1) kt) ?_
        show own_Go p e below _ (T3.setTop (mkF m 80 #[.val (.int p0), .val (.int p1), .val (.int p2), .val (.int p3), .val (.long xa), .second, .val (.long xb), .second, .val (.long xm), .second, .val (.ref ao), .val (.int xk), .val (.double (FP.l2d xb)), .second, .unset, .unset, .unset] []))
        refine own_Go.st (fun _ kt => XS.iconst X3.here hx rfl (hb hby at_80) kt) ?_
        show own_Go p e below _ (T3.setTop (mkF m 81 #[.val (.int p0), .val (.int p1), .val (.int p2), .val (.int p3), .val (.long xa), .second, .val (.long xb), .second, .val (.long xm), .second, .val (.ref ao), .val (.int xk), .val (.double (FP.l2d xb)), .second, .unset, .unset, .unset] [(.int (1 : Int32))]))
        refine own_Go.st (fun _ kt => XS.goto X3.here hx rfl (pc0 := 81) (pc' := 85) rfl (hb hby at_81) (by decide) (by decide) kt) ?_
        show own_Go p e below _ (T3.setTop (mkF m 85 #[.val (.int p0), .val (.int p1), .val (.int p2), .val (.int p3), .val (.long xa), .second, .val (.long xb), .second, .val (.long xm), .second, .val (.ref ao), .val (.int xk), .val (.double (FP.l2d xb)), .second, .unset, .unset, .unset] [(.int (1 : Int32))]))
        refine own_Go.st (fun _ kt => XS.istore X3.here hx rfl (hb hby at_85) rfl (l' := #[.val (.int p0), .val (.int p1), .val (.int p2), .val (.int p3), .val (.long xa), .second, .val (.long xb), .second, .val (.long xm), .second, .val (.ref ao), .val (.int xk), .val (.double (FP.l2d xb)), .second, .val (.int (1 : Int32)), .unset, .unset]) rfl kt) ?_
        show own_Go p e below _ (T3.setTop (mkF m 87 #[.val (.int p0), .val (.int p1), .val (.int p2), .val (.int p3), .val (.long xa), .second, .val (.long xb), .second, .val (.long xm), .second, .val (.ref ao), .val (.int xk), .val (.double (FP.l2d xb)), .second, .val (.int (1 : Int32)), .unset, .unset] []))
        refine own_Go.st (fun _ kt => XS.goto X3.here hx rfl (pc0 := 87) (pc' := 253) rfl (hb hby at_87) (by decide) (by decide) kt) ?_
        show own_Go p e below _ (T3.setTop (mkF m 253 #[.val (.int p0), .val (.int p1), .val (.int p2), .val (.int p3), .val (.long xa), .second, .val (.long xb), .second, .val (.long xm), .second, .val (.ref ao), .val (.int xk), .val (.double (FP.l2d xb)), .second, .val (.int (1 : Int32)), .unset, .unset] []))
        exact J253 _ _ X3 rfl N3 _ _ (own_hv1 (own_B ba) (own_B bb) (own_B bb) (by rw [Int64.lt_iff_toInt_lt] at *; omega) (by rw [Int64.lt_iff_toInt_lt] at *; omega))
    · refine own_Go.st (fun _ kt => XS.icmpYes X3.here hx rfl (pc0 := 64) (pc' := 90) rfl (hb hby at_64) rfl (feq k1).2 (by decide) (by decide) kt) ?_
      show own_Go p e below _ (T3.setTop (mkF m 90 #[.val (.int p0), .val (.int p1), .val (.int p2), .val (.int p3), .val (.long xa), .second, .val (.long xb), .second, .val (.long xm), .second, .val (.ref ao), .val (.int xk), .unset, .unset, .unset, .unset, .unset] []))
      refine own_Go.st (fun _ kt => XS.iload X3.here hx rfl (hb hby at_90) rfl kt) ?_
      show own_Go p e below _ (T3.setTop (mkF m 92 #[.val (.int p0), .val (.int p1), .val (.int p2), .val (.int p3), .val (.long xa), .second, .val (.long xb), .second, .val (.long xm), .second, .val (.ref ao), .val (.int xk), .unset, .unset, .unset, .unset, .unset] [(.int xk)]))
      refine own_Go.st (fun _ kt => XS.iconst X3.here hx rfl (hb hby at_92) kt) ?_
      show own_Go p e below _ (T3.setTop (mkF m 93 #[.val (.int p0), .val (.int p1), .val (.int p2), .val (.int p3), .val (.long xa), .second, .val (.long xb), .second, .val (.long xm), .second, .val (.ref ao), .val (.int xk), .unset, .unset, .unset, .unset, .unset] [(.int (2 : Int32)), (.int xk)]))
      by_cases k2 : xk = (2 : Int32)
      · refine own_Go.st (fun _ kt => XS.icmpNo X3.here hx rfl (hb hby at_93) rfl (teq k2).2 kt) ?_
        show own_Go p e below _ (T3.setTop (mkF m 96 #[.val (.int p0), .val (.int p1), .val (.int p2), .val (.int p3), .val (.long xa), .second, .val (.long xb), .second, .val (.long xm), .second, .val (.ref ao), .val (.int xk), .unset, .unset, .unset, .unset, .unset] []))
        refine own_Go.st (fun _ kt => XS.lload X3.here hx rfl (hb hby at_96) rfl kt) ?_
        show own_Go p e below _ (T3.setTop (mkF m 98 #[.val (.int p0), .val (.int p1), .val (.int p2), .val (.int p3), .val (.long xa), .second, .val (.long xb), .second, .val (.long xm), .second, .val (.ref ao), .val (.int xk), .unset, .unset, .unset, .unset, .unset] [(.long xa)]))
        refine own_Go.st (fun _ kt => XS.lconst X3.here hx rfl (hb hby at_98) kt) ?_
        show own_Go p e below _ (T3.setTop (mkF m 99 #[.val (.int p0), .val (.int p1), .val (.int p2), .val (.int p3), .val (.long xa), .second, .val (.long xb), .second, .val (.long xm), .second, .val (.ref ao), .val (.int xk), .unset, .unset, .unset, .unset, .unset] [(.long (1 : Int64)), (.long xa)]))
        refine own_Go.st (fun _ kt => XS.lsub X3.here hx rfl (hb hby at_99) rfl kt) ?_
        show own_Go p e below _ (T3.setTop (mkF m 100 #[.val (.int p0), .val (.int p1), .val (.int p2), .val (.int p3), .val (.long xa), .second, .val (.long xb), .second, .val (.long xm), .second, .val (.ref ao), .val (.int xk), .unset, .unset, .unset, .unset, .unset] [(.long (xa - (1 : Int64)))]))
        refine own_Go.st (fun _ kt => XS.l2dS X3.here hx rfl (hb hby at_100) rfl rfl kt) ?_
        show own_Go p e below _ (T3.setTop (mkF m 101 #[.val (.int p0), .val (.int p1), .val (.int p2), .val (.int p3), .val (.long xa), .second, .val (.long xb), .second, .val (.long xm), .second, .val (.ref ao), .val (.int xk), .unset, .unset, .unset, .unset, .unset] [(.double (FP.l2d (xa - (1 : Int64))))]))
        refine own_Go.st (fun _ kt => XS.dstore X3.here hx rfl (hb hby at_101) rfl (l' := #[.val (.int p0), .val (.int p1), .val (.int p2), .val (.int p3), .val (.long xa), .second, .val (.long xb), .second, .val (.long xm), .second, .val (.ref ao), .val (.int xk), .val (.double (FP.l2d (xa - (1 : Int64)))), .second, .unset, .unset, .unset]) rfl kt) ?_
        show own_Go p e below _ (T3.setTop (mkF m 103 #[.val (.int p0), .val (.int p1), .val (.int p2), .val (.int p3), .val (.long xa), .second, .val (.long xb), .second, .val (.long xm), .second, .val (.ref ao), .val (.int xk), .val (.double (FP.l2d (xa - (1 : Int64)))), .second, .unset, .unset, .unset] []))
        refine own_Go.st (fun _ kt => XS.iconst X3.here hx rfl (hb hby at_103) kt) ?_
        show own_Go p e below _ (T3.setTop (mkF m 104 #[.val (.int p0), .val (.int p1), .val (.int p2), .val (.int p3), .val (.long xa), .second, .val (.long xb), .second, .val (.long xm), .second, .val (.ref ao), .val (.int xk), .val (.double (FP.l2d (xa - (1 : Int64)))), .second, .unset, .unset, .unset] [(.int (0 : Int32))]))
        refine own_Go.st (fun _ kt => XS.istore X3.here hx rfl (hb hby at_104) rfl (l' := #[.val (.int p0), .val (.int p1), .val (.int p2), .val (.int p3), .val (.long xa), .second, .val (.long xb), .second, .val (.long xm), .second, .val (.ref ao), .val (.int xk), .val (.double (FP.l2d (xa - (1 : Int64)))), .second, .val (.int (0 : Int32)), .unset, .unset]) rfl kt) ?_
        show own_Go p e below _ (T3.setTop (mkF m 106 #[.val (.int p0), .val (.int p1), .val (.int p2), .val (.int p3), .val (.long xa), .second, .val (.long xb), .second, .val (.long xm), .second, .val (.ref ao), .val (.int xk), .val (.double (FP.l2d (xa - (1 : Int64)))), .second, .val (.int (0 : Int32)), .unset, .unset] []))
        refine own_Go.st (fun _ kt => XS.goto X3.here hx rfl (pc0 := 106) (pc' := 253) rfl (hb hby at_106) (by decide) (by decide) kt) ?_
        show own_Go p e below _ (T3.setTop (mkF m 253 #[.val (.int p0), .val (.int p1), .val (.int p2), .val (.int p3), .val (.long xa), .second, .val (.long xb), .second, .val (.long xm), .second, .val (.ref ao), .val (.int xk), .val (.double (FP.l2d (xa - (1 : Int64)))), .second, .val (.int (0 : Int32)), .unset, .unset] []))
        have pa := own_pred ba
        exact J253 _ _ X3 rfl N3 _ _ (own_hv0 (own_B ba) (own_B bb) ⟨by omega, by omega⟩ (Or.inl (by rw [Int64.lt_iff_toInt_lt]; omega)))
      · refine own_Go.st (fun _ kt => XS.icmpYes X3.here hx rfl (pc0 := 93) (pc' := 109) rfl (hb hby at_93) rfl (feq k2).2 (by decide) (by decide) kt) ?_
        show own_Go p e below _ (T3.setTop (mkF m 109 #[.val (.int p0), .val (.int p1), .val (.int p2), .val (.int p3), .val (.long xa), .second, .val (.long xb), .second, .val (.long xm), .second, .val (.ref ao), .val (.int xk), .unset, .unset, .unset, .unset, .unset] []))
        refine own_Go.st (fun _ kt => XS.iload X3.here hx rfl (hb hby at_109) rfl kt) ?_
        show own_Go p e below _ (T3.setTop (mkF m 111 #[.val (.int p0), .val (.int p1), .val (.int p2), .val (.int p3), .val (.long xa), .second, .val (.long xb), .second, .val (.long xm), .second, .val (.ref ao), .val (.int xk), .unset, .unset, .unset, .unset, .unset] [(.int xk)]))
        refine own_Go.st (fun _ kt => XS.iconst X3.here hx rfl (hb hby at_111) kt) ?_
        show own_Go p e below _ (T3.setTop (mkF m 112 #[.val (.int p0), .val (.int p1), .val (.int p2), .val (.int p3), .val (.long xa), .second, .val (.long xb), .second, .val (.long xm), .second, .val (.ref ao), .val (.int xk), .unset, .unset, .unset, .unset, .unset] [(.int (3 : Int32)), (.int xk)]))
        by_cases k3 : xk = (3 : Int32)
        · refine own_Go.st (fun _ kt => XS.icmpNo X3.here hx rfl (hb hby at_112) rfl (teq k3).2 kt) ?_
          show own_Go p e below _ (T3.setTop (mkF m 115 #[.val (.int p0), .val (.int p1), .val (.int p2), .val (.int p3), .val (.long xa), .second, .val (.long xb), .second, .val (.long xm), .second, .val (.ref ao), .val (.int xk), .unset, .unset, .unset, .unset, .unset] []))
          refine own_Go.st (fun _ kt => XS.lload X3.here hx rfl (hb hby at_115) rfl kt) ?_
          show own_Go p e below _ (T3.setTop (mkF m 117 #[.val (.int p0), .val (.int p1), .val (.int p2), .val (.int p3), .val (.long xa), .second, .val (.long xb), .second, .val (.long xm), .second, .val (.ref ao), .val (.int xk), .unset, .unset, .unset, .unset, .unset] [(.long xb)]))
          refine own_Go.st (fun _ kt => XS.lconst X3.here hx rfl (hb hby at_117) kt) ?_
          show own_Go p e below _ (T3.setTop (mkF m 118 #[.val (.int p0), .val (.int p1), .val (.int p2), .val (.int p3), .val (.long xa), .second, .val (.long xb), .second, .val (.long xm), .second, .val (.ref ao), .val (.int xk), .unset, .unset, .unset, .unset, .unset] [(.long (1 : Int64)), (.long xb)]))
          refine own_Go.st (fun _ kt => XS.ladd X3.here hx rfl (hb hby at_118) rfl kt) ?_
          show own_Go p e below _ (T3.setTop (mkF m 119 #[.val (.int p0), .val (.int p1), .val (.int p2), .val (.int p3), .val (.long xa), .second, .val (.long xb), .second, .val (.long xm), .second, .val (.ref ao), .val (.int xk), .unset, .unset, .unset, .unset, .unset] [(.long (xb + (1 : Int64)))]))
          refine own_Go.st (fun _ kt => XS.l2dS X3.here hx rfl (hb hby at_119) rfl rfl kt) ?_
          show own_Go p e below _ (T3.setTop (mkF m 120 #[.val (.int p0), .val (.int p1), .val (.int p2), .val (.int p3), .val (.long xa), .second, .val (.long xb), .second, .val (.long xm), .second, .val (.ref ao), .val (.int xk), .unset, .unset, .unset, .unset, .unset] [(.double (FP.l2d (xb + (1 : Int64))))]))
          refine own_Go.st (fun _ kt => XS.dstore X3.here hx rfl (hb hby at_120) rfl (l' := #[.val (.int p0), .val (.int p1), .val (.int p2), .val (.int p3), .val (.long xa), .second, .val (.long xb), .second, .val (.long xm), .second, .val (.ref ao), .val (.int xk), .val (.double (FP.l2d (xb + (1 : Int64)))), .second, .unset, .unset, .unset]) rfl kt) ?_
          show own_Go p e below _ (T3.setTop (mkF m 122 #[.val (.int p0), .val (.int p1), .val (.int p2), .val (.int p3), .val (.long xa), .second, .val (.long xb), .second, .val (.long xm), .second, .val (.ref ao), .val (.int xk), .val (.double (FP.l2d (xb + (1 : Int64)))), .second, .unset, .unset, .unset] []))
          refine own_Go.st (fun _ kt => XS.iconst X3.here hx rfl (hb hby at_122) kt) ?_
          show own_Go p e below _ (T3.setTop (mkF m 123 #[.val (.int p0), .val (.int p1), .val (.int p2), .val (.int p3), .val (.long xa), .second, .val (.long xb), .second, .val (.long xm), .second, .val (.ref ao), .val (.int xk), .val (.double (FP.l2d (xb + (1 : Int64)))), .second, .unset, .unset, .unset] [(.int (0 : Int32))]))
          refine own_Go.st (fun _ kt => XS.istore X3.here hx rfl (hb hby at_123) rfl (l' := #[.val (.int p0), .val (.int p1), .val (.int p2), .val (.int p3), .val (.long xa), .second, .val (.long xb), .second, .val (.long xm), .second, .val (.ref ao), .val (.int xk), .val (.double (FP.l2d (xb + (1 : Int64)))), .second, .val (.int (0 : Int32)), .unset, .unset]) rfl kt) ?_
          show own_Go p e below _ (T3.setTop (mkF m 125 #[.val (.int p0), .val (.int p1), .val (.int p2), .val (.int p3), .val (.long xa), .second, .val (.long xb), .second, .val (.long xm), .second, .val (.ref ao), .val (.int xk), .val (.double (FP.l2d (xb + (1 : Int64)))), .second, .val (.int (0 : Int32)), .unset, .unset] []))
          refine own_Go.st (fun _ kt => XS.goto X3.here hx rfl (pc0 := 125) (pc' := 253) rfl (hb hby at_125) (by decide) (by decide) kt) ?_
          show own_Go p e below _ (T3.setTop (mkF m 253 #[.val (.int p0), .val (.int p1), .val (.int p2), .val (.int p3), .val (.long xa), .second, .val (.long xb), .second, .val (.long xm), .second, .val (.ref ao), .val (.int xk), .val (.double (FP.l2d (xb + (1 : Int64)))), .second, .val (.int (0 : Int32)), .unset, .unset] []))
          have pa := own_succ bb
          exact J253 _ _ X3 rfl N3 _ _ (own_hv0 (own_B ba) (own_B bb) ⟨by omega, by omega⟩ (Or.inr (by rw [Int64.lt_iff_toInt_lt]; omega)))
        · refine own_Go.st (fun _ kt => XS.icmpYes X3.here hx rfl (pc0 := 112) (pc' := 128) rfl (hb hby at_112) rfl (feq k3).2 (by decide) (by decide) kt) ?_
          show own_Go p e below _ (T3.setTop (mkF m 128 #[.val (.int p0), .val (.int p1), .val (.int p2), .val (.int p3), .val (.long xa), .second, .val (.long xb), .second, .val (.long xm), .second, .val (.ref ao), .val (.int xk), .unset, .unset, .unset, .unset, .unset] []))
          refine own_Go.st (fun _ kt => XS.iload X3.here hx rfl (hb hby at_128) rfl kt) ?_
          show own_Go p e below _ (T3.setTop (mkF m 130 #[.val (.int p0), .val (.int p1), .val (.int p2), .val (.int p3), .val (.long xa), .second, .val (.long xb), .second, .val (.long xm), .second, .val (.ref ao), .val (.int xk), .unset, .unset, .unset, .unset, .unset] [(.int xk)]))
          refine own_Go.st (fun _ kt => XS.iconst X3.here hx rfl (hb hby at_130) kt) ?_
          show own_Go p e below _ (T3.setTop (mkF m 131 #[.val (.int p0), .val (.int p1), .val (.int p2), .val (.int p3), .val (.long xa), .second, .val (.long xb), .second, .val (.long xm), .second, .val (.ref ao), .val (.int xk), .unset, .unset, .unset, .unset, .unset] [(.int (5 : Int32)), (.int xk)]))
          by_cases k5 : xk = (5 : Int32)
          · refine own_Go.st (fun _ kt => XS.icmpNo X3.here hx rfl (hb hby at_131) rfl (teq k5).2 kt) ?_
            show own_Go p e below _ (T3.setTop (mkF m 134 #[.val (.int p0), .val (.int p1), .val (.int p2), .val (.int p3), .val (.long xa), .second, .val (.long xb), .second, .val (.long xm), .second, .val (.ref ao), .val (.int xk), .unset, .unset, .unset, .unset, .unset] []))
            refine own_Go.st (fun _ kt => XS.lload X3.here hx rfl (hb hby at_134) rfl kt) ?_
            show own_Go p e below _ (T3.setTop (mkF m 136 #[.val (.int p0), .val (.int p1), .val (.int p2), .val (.int p3), .val (.long xa), .second, .val (.long xb), .second, .val (.long xm), .second, .val (.ref ao), .val (.int xk), .unset, .unset, .unset, .unset, .unset] [(.long xa)]))
            refine own_Go.st (fun _ kt => XS.lload X3.here hx rfl (hb hby at_136) rfl kt) ?_
            show own_Go p e below _ (T3.setTop (mkF m 138 #[.val (.int p0), .val (.int p1), .val (.int p2), .val (.int p3), .val (.long xa), .second, .val (.long xb), .second, .val (.long xm), .second, .val (.ref ao), .val (.int xk), .unset, .unset, .unset, .unset, .unset] [(.long xb), (.long xa)]))
            refine own_Go.st (fun _ kt => XS.lload X3.here hx rfl (hb hby at_138) rfl kt) ?_
            show own_Go p e below _ (T3.setTop (mkF m 140 #[.val (.int p0), .val (.int p1), .val (.int p2), .val (.int p3), .val (.long xa), .second, .val (.long xb), .second, .val (.long xm), .second, .val (.ref ao), .val (.int xk), .unset, .unset, .unset, .unset, .unset] [(.long xa), (.long xb), (.long xa)]))
            refine own_Go.st (fun _ kt => XS.lsub X3.here hx rfl (hb hby at_140) rfl kt) ?_
            show own_Go p e below _ (T3.setTop (mkF m 141 #[.val (.int p0), .val (.int p1), .val (.int p2), .val (.int p3), .val (.long xa), .second, .val (.long xb), .second, .val (.long xm), .second, .val (.ref ao), .val (.int xk), .unset, .unset, .unset, .unset, .unset] [(.long (xb - xa)), (.long xa)]))
            refine own_Go.st (fun _ kt => X3.ldc2J hx hown (mvT hZ (hw _ (List.mem_of_getElem? (i := 31) rfl))) rfl (hb hby at_141) kt) ?_
            show own_Go p e below _ (T3.setTop (mkF m 144 #[.val (.int p0), .val (.int p1), .val (.int p2), .val (.int p3), .val (.long xa), .second, .val (.long xb), .second, .val (.long xm), .second, .val (.ref ao), .val (.int xk), .unset, .unset, .unset, .unset, .unset] [(.long (2 : Int64)), (.long (xb - xa)), (.long xa)]))
            refine own_Go.st (fun _ kt => XS.ldiv X3.here hx rfl (hb hby at_144) rfl (by decide) kt) ?_
            show own_Go p e below _ (T3.setTop (mkF m 145 #[.val (.int p0), .val (.int p1), .val (.int p2), .val (.int p3), .val (.long xa), .second, .val (.long xb), .second, .val (.long xm), .second, .val (.ref ao), .val (.int xk), .unset, .unset, .unset, .unset, .unset] [(.long ((xb - xa) / (2 : Int64))), (.long xa)]))
            refine own_Go.st (fun _ kt => XS.ladd X3.here hx rfl (hb hby at_145) rfl kt) ?_
            show own_Go p e below _ (T3.setTop (mkF m 146 #[.val (.int p0), .val (.int p1), .val (.int p2), .val (.int p3), .val (.long xa), .second, .val (.long xb), .second, .val (.long xm), .second, .val (.ref ao), .val (.int xk), .unset, .unset, .unset, .unset, .unset] [(.long (xa + ((xb - xa) / (2 : Int64))))]))
            have md := own_mid ba bb
            generalize (xa + ((xb - xa) / (2 : Int64))) = xq at md ⊢
            show own_Go p e below _ (T3.setTop (mkF m 146 #[.val (.int p0), .val (.int p1), .val (.int p2), .val (.int p3), .val (.long xa), .second, .val (.long xb), .second, .val (.long xm), .second, .val (.ref ao), .val (.int xk), .unset, .unset, .unset, .unset, .unset] [(.long xq)]))
            refine own_Go.st (fun _ kt => XS.lstore X3.here hx rfl (hb hby at_146) rfl (l' := #[.val (.int p0), .val (.int p1), .val (.int p2), .val (.int p3), .val (.long xa), .second, .val (.long xb), .second, .val (.long xm), .second, .val (.ref ao), .val (.int xk), .unset, .unset, .unset, .val (.long xq), .second]) rfl kt) ?_
            show own_Go p e below _ (T3.setTop (mkF m 148 #[.val (.int p0), .val (.int p1), .val (.int p2), .val (.int p3), .val (.long xa), .second, .val (.long xb), .second, .val (.long xm), .second, .val (.ref ao), .val (.int xk), .unset, .unset, .unset, .val (.long xq), .second] []))
            refine own_Go.st (fun _ kt => XS.lload X3.here hx rfl (hb hby at_148) rfl kt) ?_
            show own_Go p e below _ (T3.setTop (mkF m 150 #[.val (.int p0), .val (.int p1), .val (.int p2), .val (.int p3), .val (.long xa), .second, .val (.long xb), .second, .val (.long xm), .second, .val (.ref ao), .val (.int xk), .unset, .unset, .unset, .val (.long xq), .second] [(.long xq)]))
            refine own_Go.st (fun _ kt => XS.l2dS X3.here hx rfl (hb hby at_150) rfl rfl kt) ?_
            show own_Go p e below _ (T3.setTop (mkF m 151 #[.val (.int p0), .val (.int p1), .val (.int p2), .val (.int p3), .val (.long xa), .second, .val (.long xb), .second, .val (.long xm), .second, .val (.ref ao), .val (.int xk), .unset, .unset, .unset, .val (.long xq), .second] [(.double (FP.l2d xq))]))
            refine own_Go.st (fun _ kt => XS.dstore X3.here hx rfl (hb hby at_151) rfl (l' := #[.val (.int p0), .val (.int p1), .val (.int p2), .val (.int p3), .val (.long xa), .second, .val (.long xb), .second, .val (.long xm), .second, .val (.ref ao), .val (.int xk), .val (.double (FP.l2d xq)), .second, .unset, .val (.long xq), .second]) rfl kt) ?_
            show own_Go p e below _ (T3.setTop (mkF m 153 #[.val (.int p0), .val (.int p1), .val (.int p2), .val (.int p3), .val (.long xa), .second, .val (.long xb), .second, .val (.long xm), .second, .val (.ref ao), .val (.int xk), .val (.double (FP.l2d xq)), .second, .unset, .val (.long xq), .second] []))
            refine own_Go.st (fun _ kt => XS.lload X3.here hx rfl (hb hby at_153) rfl kt) ?_
            show own_Go p e below _ (T3.setTop (mkF m 155 #[.val (.int p0), .val (.int p1), .val (.int p2), .val (.int p3), .val (.long xa), .second, .val (.long xb), .second, .val (.long xm), .second, .val (.ref ao), .val (.int xk), .val (.double (FP.l2d xq)), .second, .unset, .val (.long xq), .second] [(.long xa)]))
            refine own_Go.st (fun _ kt => XS.lload X3.here hx rfl (hb hby at_155) rfl kt) ?_
            show own_Go p e below _ (T3.setTop (mkF m 157 #[.val (.int p0), .val (.int p1), .val (.int p2), .val (.int p3), .val (.long xa), .second, .val (.long xb), .second, .val (.long xm), .second, .val (.ref ao), .val (.int xk), .val (.double (FP.l2d xq)), .second, .unset, .val (.long xq), .second] [(.long xb), (.long xa)]))
            refine own_Go.st (fun _ kt => XS.lcmp X3.here hx rfl (hb hby at_157) rfl kt) ?_
            show own_Go p e below _ (T3.setTop (mkF m 158 #[.val (.int p0), .val (.int p1), .val (.int p2), .val (.int p3), .val (.long xa), .second, .val (.long xb), .second, .val (.long xm), .second, .val (.ref ao), .val (.int xk), .val (.double (FP.l2d xq)), .second, .unset, .val (.long xq), .second] [(.int (lcmpW xa xb))]))
            by_cases hle : xb < xa
            · refine own_Go.st (fun _ kt => XS.ifYes X3.here hx rfl (pc0 := 158) (pc' := 165) rfl (hb hby at_158) rfl ((if0 _ _).trans (tlt ((lw_gt _ _).mpr hle)).2.2.1) (by decide) (by decide) kt) ?_
              show own_Go p e below _ (T3.setTop (mkF m 165 #[.val (.int p0), .val (.int p1), .val (.int p2), .val (.int p3), .val (.long xa), .second, .val (.long xb), .second, .val (.long xm), .second, .val (.ref ao), .val (.int xk), .val (.double (FP.l2d xq)), .second, .unset, .val (.long xq), .second] []))
              rw [Int64.lt_iff_toInt_lt] at hle
              refine own_Go.st (fun _ kt => XS.iconst X3.here hx rfl (hb hby at_165) kt) ?_
              show own_Go p e below _ (T3.setTop (mkF m 166 #[.val (.int p0), .val (.int p1), .val (.int p2), .val (.int p3), .val (.long xa), .second, .val (.long xb), .second, .val (.long xm), .second, .val (.ref ao), .val (.int xk), .val (.double (FP.l2d xq)), .second, .unset, .val (.long xq), .second] [(.int (0 : Int32))]))
              refine own_Go.st (fun _ kt => XS.istore X3.here hx rfl (hb hby at_166) rfl (l' := #[.val (.int p0), .val (.int p1), .val (.int p2), .val (.int p3), .val (.long xa), .second, .val (.long xb), .second, .val (.long xm), .second, .val (.ref ao), .val (.int xk), .val (.double (FP.l2d xq)), .second, .val (.int (0 : Int32)), .val (.long xq), .second]) rfl kt) ?_
              show own_Go p e below _ (T3.setTop (mkF m 168 #[.val (.int p0), .val (.int p1), .val (.int p2), .val (.int p3), .val (.long xa), .second, .val (.long xb), .second, .val (.long xm), .second, .val (.ref ao), .val (.int xk), .val (.double (FP.l2d xq)), .second, .val (.int (0 : Int32)), .val (.long xq), .second] []))
              refine own_Go.st (fun _ kt => XS.goto X3.here hx rfl (pc0 := 168) (pc' := 253) rfl (hb hby at_168) (by decide) (by decide) kt) ?_
              show own_Go p e below _ (T3.setTop (mkF m 253 #[.val (.int p0), .val (.int p1), .val (.int p2), .val (.int p3), .val (.long xa), .second, .val (.long xb), .second, .val (.long xm), .second, .val (.ref ao), .val (.int xk), .val (.double (FP.l2d xq)), .second, .val (.int (0 : Int32)), .val (.long xq), .second] []))
              have m2 := md.2 hle
              exact J253q _ _ X3 rfl N3 _ _ _ (own_hv0 (own_B ba) (own_B bb) ⟨by omega, by omega⟩ (Or.inr (by rw [Int64.lt_iff_toInt_lt]; omega)))
            · refine own_Go.st (fun _ kt => XS.ifNo X3.here hx rfl (hb hby at_158) rfl ((if0 _ _).trans (flt (mt (lw_gt _ _).mp hle)).2.2.1) kt) ?_
              show own_Go p e below _ (T3.setTop (mkF m 161 #[.val (.int p0), .val (.int p1), .val (.int p2), .val (.int p3), .val (.long xa), .second, .val (.long xb), .second, .val (.long xm), .second, .val (.ref ao), .val (.int xk), .val (.double (FP.l2d xq)), .second, .unset, .val (.long xq), .second] []))
              rw [Int64.lt_iff_toInt_lt] at hle
              refine own_Go.st (fun _ kt => XS.iconst X3.here hx rfl (hb hby at_161) kt) ?_
              show own_Go p e below _ (T3.setTop (mkF m 162 #[.val (.int p0), .val (.int p1), .val (.int p2), .val (.int p3), .val (.long xa), .second, .val (.long xb), .second, .val (.long xm), .second, .val (.ref ao), .val (.int xk), .val (.double (FP.l2d xq)), .second, .unset, .val (.long xq), .second] [(.int (1 : Int32))]))
              refine own_Go.st (fun _ kt => XS.goto X3.here hx rfl (pc0 := 162) (pc' := 166) rfl (hb hby at_162) (by decide) (by decide) kt) ?_
              show own_Go p e below _ (T3.setTop (mkF m 166 #[.val (.int p0), .val (.int p1), .val (.int p2), .val (.int p3), .val (.long xa), .second, .val (.long xb), .second, .val (.long xm), .second, .val (.ref ao), .val (.int xk), .val (.double (FP.l2d xq)), .second, .unset, .val (.long xq), .second] [(.int (1 : Int32))]))
              refine own_Go.st (fun _ kt => XS.istore X3.here hx rfl (hb hby at_166) rfl (l' := #[.val (.int p0), .val (.int p1), .val (.int p2), .val (.int p3), .val (.long xa), .second, .val (.long xb), .second, .val (.long xm), .second, .val (.ref ao), .val (.int xk), .val (.double (FP.l2d xq)), .second, .val (.int (1 : Int32)), .val (.long xq), .second]) rfl kt) ?_
              show own_Go p e below _ (T3.setTop (mkF m 168 #[.val (.int p0), .val (.int p1), .val (.int p2), .val (.int p3), .val (.long xa), .second, .val (.long xb), .second, .val (.long xm), .second, .val (.ref ao), .val (.int xk), .val (.double (FP.l2d xq)), .second, .val (.int (1 : Int32)), .val (.long xq), .second] []))
              refine own_Go.st (fun _ kt => XS.goto X3.here hx rfl (pc0 := 168) (pc' := 253) rfl (hb hby at_168) (by decide) (by decide) kt) ?_
              show own_Go p e below _ (T3.setTop (mkF m 253 #[.val (.int p0), .val (.int p1), .val (.int p2), .val (.int p3), .val (.long xa), .second, .val (.long xb), .second, .val (.long xm), .second, .val (.ref ao), .val (.int xk), .val (.double (FP.l2d xq)), .second, .val (.int (1 : Int32)), .val (.long xq), .second] []))
              have m2 := md.1 (by omega)
              exact J253q _ _ X3 rfl N3 _ _ _ (own_hv1 (own_B ba) (own_B bb) ⟨by omega, by omega⟩ (by rw [Int64.lt_iff_toInt_lt]; omega) (by rw [Int64.lt_iff_toInt_lt]; omega))
          · refine own_Go.st (fun _ kt => XS.icmpYes X3.here hx rfl (pc0 := 131) (pc' := 171) rfl (hb hby at_131) rfl (feq k5).2 (by decide) (by decide) kt) ?_
            show own_Go p e below _ (T3.setTop (mkF m 171 #[.val (.int p0), .val (.int p1), .val (.int p2), .val (.int p3), .val (.long xa), .second, .val (.long xb), .second, .val (.long xm), .second, .val (.ref ao), .val (.int xk), .unset, .unset, .unset, .unset, .unset] []))
            refine own_Go.st (fun _ kt => XS.iload X3.here hx rfl (hb hby at_171) rfl kt) ?_
            show own_Go p e below _ (T3.setTop (mkF m 173 #[.val (.int p0), .val (.int p1), .val (.int p2), .val (.int p3), .val (.long xa), .second, .val (.long xb), .second, .val (.long xm), .second, .val (.ref ao), .val (.int xk), .unset, .unset, .unset, .unset, .unset] [(.int xk)]))
            refine own_Go.st (fun _ kt => XS.bipush X3.here hx rfl (hb hby at_173) kt) ?_
            show own_Go p e below _ (T3.setTop (mkF m 175 #[.val (.int p0), .val (.int p1), .val (.int p2), .val (.int p3), .val (.long xa), .second, .val (.long xb), .second, .val (.long xm), .second, .val (.ref ao), .val (.int xk), .unset, .unset, .unset, .unset, .unset] [(.int (6 : Int32)), (.int xk)]))
            by_cases k6 : xk = (6 : Int32)
            · refine own_Go.st (fun _ kt => XS.icmpNo X3.here hx rfl (hb hby at_175) rfl (teq k6).2 kt) ?_
              show own_Go p e below _ (T3.setTop (mkF m 178 #[.val (.int p0), .val (.int p1), .val (.int p2), .val (.int p3), .val (.long xa), .second, .val (.long xb), .second, .val (.long xm), .second, .val (.ref ao), .val (.int xk), .unset, .unset, .unset, .unset, .unset] []))
              refine own_Go.st (fun _ kt => X3.ldc2DoubleC hx hown (mvT hZ (hw _ (List.mem_of_getElem? (i := 27) rfl))) (g := (mkF m 178 #[.val (.int p0), .val (.int p1), .val (.int p2), .val (.int p3), .val (.long xa), .second, .val (.long xb), .second, .val (.long xm), .second, .val (.ref ao), .val (.int xk), .unset, .unset, .unset, .unset, .unset] [])) rfl (hb hby at_178) _ kt) ?_
              show own_Go p e below _ (T3.setTop (mkF m 181 #[.val (.int p0), .val (.int p1), .val (.int p2), .val (.int p3), .val (.long xa), .second, .val (.long xb), .second, .val (.long xm), .second, .val (.ref ao), .val (.int xk), .unset, .unset, .unset, .unset, .unset] [(.double (9223372036854775808 : UInt64))]))
              refine own_Go.st (fun _ kt => XS.dstore X3.here hx rfl (hb hby at_181) rfl (l' := #[.val (.int p0), .val (.int p1), .val (.int p2), .val (.int p3), .val (.long xa), .second, .val (.long xb), .second, .val (.long xm), .second, .val (.ref ao), .val (.int xk), .val (.double (9223372036854775808 : UInt64)), .second, .unset, .unset, .unset]) rfl kt) ?_
              show own_Go p e below _ (T3.setTop (mkF m 183 #[.val (.int p0), .val (.int p1), .val (.int p2), .val (.int p3), .val (.long xa), .second, .val (.long xb), .second, .val (.long xm), .second, .val (.ref ao), .val (.int xk), .val (.double (9223372036854775808 : UInt64)), .second, .unset, .unset, .unset] []))
              refine own_Go.st (fun _ kt => XS.lload X3.here hx rfl (hb hby at_183) rfl kt) ?_
              show own_Go p e below _ (T3.setTop (mkF m 185 #[.val (.int p0), .val (.int p1), .val (.int p2), .val (.int p3), .val (.long xa), .second, .val (.long xb), .second, .val (.long xm), .second, .val (.ref ao), .val (.int xk), .val (.double (9223372036854775808 : UInt64)), .second, .unset, .unset, .unset] [(.long xa)]))
              refine own_Go.st (fun _ kt => XS.lconst X3.here hx rfl (hb hby at_185) kt) ?_
              show own_Go p e below _ (T3.setTop (mkF m 186 #[.val (.int p0), .val (.int p1), .val (.int p2), .val (.int p3), .val (.long xa), .second, .val (.long xb), .second, .val (.long xm), .second, .val (.ref ao), .val (.int xk), .val (.double (9223372036854775808 : UInt64)), .second, .unset, .unset, .unset] [(.long (0 : Int64)), (.long xa)]))
              refine own_Go.st (fun _ kt => XS.lcmp X3.here hx rfl (hb hby at_186) rfl kt) ?_
              show own_Go p e below _ (T3.setTop (mkF m 187 #[.val (.int p0), .val (.int p1), .val (.int p2), .val (.int p3), .val (.long xa), .second, .val (.long xb), .second, .val (.long xm), .second, .val (.ref ao), .val (.int xk), .val (.double (9223372036854775808 : UInt64)), .second, .unset, .unset, .unset] [(.int (lcmpW xa (0 : Int64)))]))
              have bz : B53 (0 : Int64) := ⟨by decide, by decide⟩
              by_cases hz1 : (0 : Int64) < xa
              · refine own_Go.st (fun _ kt => XS.ifYes X3.here hx rfl (pc0 := 187) (pc' := 201) rfl (hb hby at_187) rfl ((if0 _ _).trans (tlt ((lw_gt _ _).mpr hz1)).2.2.1) (by decide) (by decide) kt) ?_
                show own_Go p e below _ (T3.setTop (mkF m 201 #[.val (.int p0), .val (.int p1), .val (.int p2), .val (.int p3), .val (.long xa), .second, .val (.long xb), .second, .val (.long xm), .second, .val (.ref ao), .val (.int xk), .val (.double (9223372036854775808 : UInt64)), .second, .unset, .unset, .unset] []))
                refine own_Go.st (fun _ kt => XS.iconst X3.here hx rfl (hb hby at_201) kt) ?_
                show own_Go p e below _ (T3.setTop (mkF m 202 #[.val (.int p0), .val (.int p1), .val (.int p2), .val (.int p3), .val (.long xa), .second, .val (.long xb), .second, .val (.long xm), .second, .val (.ref ao), .val (.int xk), .val (.double (9223372036854775808 : UInt64)), .second, .unset, .unset, .unset] [(.int (0 : Int32))]))
                refine own_Go.st (fun _ kt => XS.istore X3.here hx rfl (hb hby at_202) rfl (l' := #[.val (.int p0), .val (.int p1), .val (.int p2), .val (.int p3), .val (.long xa), .second, .val (.long xb), .second, .val (.long xm), .second, .val (.ref ao), .val (.int xk), .val (.double (9223372036854775808 : UInt64)), .second, .val (.int (0 : Int32)), .unset, .unset]) rfl kt) ?_
                show own_Go p e below _ (T3.setTop (mkF m 204 #[.val (.int p0), .val (.int p1), .val (.int p2), .val (.int p3), .val (.long xa), .second, .val (.long xb), .second, .val (.long xm), .second, .val (.ref ao), .val (.int xk), .val (.double (9223372036854775808 : UInt64)), .second, .val (.int (0 : Int32)), .unset, .unset] []))
                refine own_Go.st (fun _ kt => XS.goto X3.here hx rfl (pc0 := 204) (pc' := 253) rfl (hb hby at_204) (by decide) (by decide) kt) ?_
                show own_Go p e below _ (T3.setTop (mkF m 253 #[.val (.int p0), .val (.int p1), .val (.int p2), .val (.int p3), .val (.long xa), .second, .val (.long xb), .second, .val (.long xm), .second, .val (.ref ao), .val (.int xk), .val (.double (9223372036854775808 : UInt64)), .second, .val (.int (0 : Int32)), .unset, .unset] []))
                exact J253 _ _ X3 rfl N3 _ _ ((own_hvz _ _).trans (own_hv0 (own_B ba) (own_B bb) bz (Or.inl hz1)))
              · refine own_Go.st (fun _ kt => XS.ifNo X3.here hx rfl (hb hby at_187) rfl ((if0 _ _).trans (flt (mt (lw_gt _ _).mp hz1)).2.2.1) kt) ?_
                show own_Go p e below _ (T3.setTop (mkF m 190 #[.val (.int p0), .val (.int p1), .val (.int p2), .val (.int p3), .val (.long xa), .second, .val (.long xb), .second, .val (.long xm), .second, .val (.ref ao), .val (.int xk), .val (.double (9223372036854775808 : UInt64)), .second, .unset, .unset, .unset] []))
                refine own_Go.st (fun _ kt => XS.lconst X3.here hx rfl (hb hby at_190) kt) ?_
                show own_Go p e below _ (T3.setTop (mkF m 191 #[.val (.int p0), .val (.int p1), .val (.int p2), .val (.int p3), .val (.long xa), .second, .val (.long xb), .second, .val (.long xm), .second, .val (.ref ao), .val (.int xk), .val (.double (9223372036854775808 : UInt64)), .second, .unset, .unset, .unset] [(.long (0 : Int64))]))
                refine own_Go.st (fun _ kt => XS.lload X3.here hx rfl (hb hby at_191) rfl kt) ?_
                show own_Go p e below _ (T3.setTop (mkF m 193 #[.val (.int p0), .val (.int p1), .val (.int p2), .val (.int p3), .val (.long xa), .second, .val (.long xb), .second, .val (.long xm), .second, .val (.ref ao), .val (.int xk), .val (.double (9223372036854775808 : UInt64)), .second, .unset, .unset, .unset] [(.long xb), (.long (0 : Int64))]))
                refine own_Go.st (fun _ kt => XS.lcmp X3.here hx rfl (hb hby at_193) rfl kt) ?_
                show own_Go p e below _ (T3.setTop (mkF m 194 #[.val (.int p0), .val (.int p1), .val (.int p2), .val (.int p3), .val (.long xa), .second, .val (.long xb), .second, .val (.long xm), .second, .val (.ref ao), .val (.int xk), .val (.double (9223372036854775808 : UInt64)), .second, .unset, .unset, .unset] [(.int (lcmpW (0 : Int64) xb))]))
                by_cases hz2 : xb < (0 : Int64)
                · refine own_Go.st (fun _ kt => XS.ifYes X3.here hx rfl (pc0 := 194) (pc' := 201) rfl (hb hby at_194) rfl ((if0 _ _).trans (tlt ((lw_gt _ _).mpr hz2)).2.2.1) (by decide) (by decide) kt) ?_
                  show own_Go p e below _ (T3.setTop (mkF m 201 #[.val (.int p0), .val (.int p1), .val (.int p2), .val (.int p3), .val (.long xa), .second, .val (.long xb), .second, .val (.long xm), .second, .val (.ref ao), .val (.int xk), .val (.double (9223372036854775808 : UInt64)), .second, .unset, .unset, .unset] []))
                  refine own_Go.st (fun _ kt => XS.iconst X3.here hx rfl (hb hby at_201) kt) ?_
                  show own_Go p e below _ (T3.setTop (mkF m 202 #[.val (.int p0), .val (.int p1), .val (.int p2), .val (.int p3), .val (.long xa), .second, .val (.long xb), .second, .val (.long xm), .second, .val (.ref ao), .val (.int xk), .val (.double (9223372036854775808 : UInt64)), .second, .unset, .unset, .unset] [(.int (0 : Int32))]))
                  refine own_Go.st (fun _ kt => XS.istore X3.here hx rfl (hb hby at_202) rfl (l' := #[.val (.int p0), .val (.int p1), .val (.int p2), .val (.int p3), .val (.long xa), .second, .val (.long xb), .second, .val (.long xm), .second, .val (.ref ao), .val (.int xk), .val (.double (9223372036854775808 : UInt64)), .second, .val (.int (0 : Int32)), .unset, .unset]) rfl kt) ?_
                  show own_Go p e below _ (T3.setTop (mkF m 204 #[.val (.int p0), .val (.int p1), .val (.int p2), .val (.int p3), .val (.long xa), .second, .val (.long xb), .second, .val (.long xm), .second, .val (.ref ao), .val (.int xk), .val (.double (9223372036854775808 : UInt64)), .second, .val (.int (0 : Int32)), .unset, .unset] []))
                  refine own_Go.st (fun _ kt => XS.goto X3.here hx rfl (pc0 := 204) (pc' := 253) rfl (hb hby at_204) (by decide) (by decide) kt) ?_
                  show own_Go p e below _ (T3.setTop (mkF m 253 #[.val (.int p0), .val (.int p1), .val (.int p2), .val (.int p3), .val (.long xa), .second, .val (.long xb), .second, .val (.long xm), .second, .val (.ref ao), .val (.int xk), .val (.double (9223372036854775808 : UInt64)), .second, .val (.int (0 : Int32)), .unset, .unset] []))
                  exact J253 _ _ X3 rfl N3 _ _ ((own_hvz _ _).trans (own_hv0 (own_B ba) (own_B bb) bz (Or.inr hz2)))
                · refine own_Go.st (fun _ kt => XS.ifNo X3.here hx rfl (hb hby at_194) rfl ((if0 _ _).trans (flt (mt (lw_gt _ _).mp hz2)).2.2.1) kt) ?_
                  show own_Go p e below _ (T3.setTop (mkF m 197 #[.val (.int p0), .val (.int p1), .val (.int p2), .val (.int p3), .val (.long xa), .second, .val (.long xb), .second, .val (.long xm), .second, .val (.ref ao), .val (.int xk), .val (.double (9223372036854775808 : UInt64)), .second, .unset, .unset, .unset] []))
                  refine own_Go.st (fun _ kt => XS.iconst X3.here hx rfl (hb hby at_197) kt) ?_
                  show own_Go p e below _ (T3.setTop (mkF m 198 #[.val (.int p0), .val (.int p1), .val (.int p2), .val (.int p3), .val (.long xa), .second, .val (.long xb), .second, .val (.long xm), .second, .val (.ref ao), .val (.int xk), .val (.double (9223372036854775808 : UInt64)), .second, .unset, .unset, .unset] [(.int (1 : Int32))]))
                  refine own_Go.st (fun _ kt => XS.goto X3.here hx rfl (pc0 := 198) (pc' := 202) rfl (hb hby at_198) (by decide) (by decide) kt) ?_
                  show own_Go p e below _ (T3.setTop (mkF m 202 #[.val (.int p0), .val (.int p1), .val (.int p2), .val (.int p3), .val (.long xa), .second, .val (.long xb), .second, .val (.long xm), .second, .val (.ref ao), .val (.int xk), .val (.double (9223372036854775808 : UInt64)), .second, .unset, .unset, .unset] [(.int (1 : Int32))]))
                  refine own_Go.st (fun _ kt => XS.istore X3.here hx rfl (hb hby at_202) rfl (l' := #[.val (.int p0), .val (.int p1), .val (.int p2), .val (.int p3), .val (.long xa), .second, .val (.long xb), .second, .val (.long xm), .second, .val (.ref ao), .val (.int xk), .val (.double (9223372036854775808 : UInt64)), .second, .val (.int (1 : Int32)), .unset, .unset]) rfl kt) ?_
                  show own_Go p e below _ (T3.setTop (mkF m 204 #[.val (.int p0), .val (.int p1), .val (.int p2), .val (.int p3), .val (.long xa), .second, .val (.long xb), .second, .val (.long xm), .second, .val (.ref ao), .val (.int xk), .val (.double (9223372036854775808 : UInt64)), .second, .val (.int (1 : Int32)), .unset, .unset] []))
                  refine own_Go.st (fun _ kt => XS.goto X3.here hx rfl (pc0 := 204) (pc' := 253) rfl (hb hby at_204) (by decide) (by decide) kt) ?_
                  show own_Go p e below _ (T3.setTop (mkF m 253 #[.val (.int p0), .val (.int p1), .val (.int p2), .val (.int p3), .val (.long xa), .second, .val (.long xb), .second, .val (.long xm), .second, .val (.ref ao), .val (.int xk), .val (.double (9223372036854775808 : UInt64)), .second, .val (.int (1 : Int32)), .unset, .unset] []))
                  exact J253 _ _ X3 rfl N3 _ _ ((own_hvz _ _).trans (own_hv1 (own_B ba) (own_B bb) bz hz1 hz2))
            · refine own_Go.st (fun _ kt => XS.icmpYes X3.here hx rfl (pc0 := 175) (pc' := 207) rfl (hb hby at_175) rfl (feq k6).2 (by decide) (by decide) kt) ?_
              show own_Go p e below _ (T3.setTop (mkF m 207 #[.val (.int p0), .val (.int p1), .val (.int p2), .val (.int p3), .val (.long xa), .second, .val (.long xb), .second, .val (.long xm), .second, .val (.ref ao), .val (.int xk), .unset, .unset, .unset, .unset, .unset] []))
              refine own_Go.st (fun _ kt => XS.lload X3.here hx rfl (hb hby at_207) rfl kt) ?_
              show own_Go p e below _ (T3.setTop (mkF m 209 #[.val (.int p0), .val (.int p1), .val (.int p2), .val (.int p3), .val (.long xa), .second, .val (.long xb), .second, .val (.long xm), .second, .val (.ref ao), .val (.int xk), .unset, .unset, .unset, .unset, .unset] [(.long xm)]))
              refine own_Go.st (fun _ kt => XS.l2dS X3.here hx rfl (hb hby at_209) rfl rfl kt) ?_
              show own_Go p e below _ (T3.setTop (mkF m 210 #[.val (.int p0), .val (.int p1), .val (.int p2), .val (.int p3), .val (.long xa), .second, .val (.long xb), .second, .val (.long xm), .second, .val (.ref ao), .val (.int xk), .unset, .unset, .unset, .unset, .unset] [(.double (FP.l2d xm))]))
              refine own_Go.st (fun _ kt => XS.dstore X3.here hx rfl (hb hby at_210) rfl (l' := #[.val (.int p0), .val (.int p1), .val (.int p2), .val (.int p3), .val (.long xa), .second, .val (.long xb), .second, .val (.long xm), .second, .val (.ref ao), .val (.int xk), .val (.double (FP.l2d xm)), .second, .unset, .unset, .unset]) rfl kt) ?_
              show own_Go p e below _ (T3.setTop (mkF m 212 #[.val (.int p0), .val (.int p1), .val (.int p2), .val (.int p3), .val (.long xa), .second, .val (.long xb), .second, .val (.long xm), .second, .val (.ref ao), .val (.int xk), .val (.double (FP.l2d xm)), .second, .unset, .unset, .unset] []))
              refine own_Go.st (fun _ kt => XS.lload X3.here hx rfl (hb hby at_212) rfl kt) ?_
              show own_Go p e below _ (T3.setTop (mkF m 214 #[.val (.int p0), .val (.int p1), .val (.int p2), .val (.int p3), .val (.long xa), .second, .val (.long xb), .second, .val (.long xm), .second, .val (.ref ao), .val (.int xk), .val (.double (FP.l2d xm)), .second, .unset, .unset, .unset] [(.long xa)]))
              refine own_Go.st (fun _ kt => XS.lload X3.here hx rfl (hb hby at_214) rfl kt) ?_
              show own_Go p e below _ (T3.setTop (mkF m 216 #[.val (.int p0), .val (.int p1), .val (.int p2), .val (.int p3), .val (.long xa), .second, .val (.long xb), .second, .val (.long xm), .second, .val (.ref ao), .val (.int xk), .val (.double (FP.l2d xm)), .second, .unset, .unset, .unset] [(.long xb), (.long xa)]))
              refine own_Go.st (fun _ kt => XS.lcmp X3.here hx rfl (hb hby at_216) rfl kt) ?_
              show own_Go p e below _ (T3.setTop (mkF m 217 #[.val (.int p0), .val (.int p1), .val (.int p2), .val (.int p3), .val (.long xa), .second, .val (.long xb), .second, .val (.long xm), .second, .val (.ref ao), .val (.int xk), .val (.double (FP.l2d xm)), .second, .unset, .unset, .unset] [(.int (lcmpW xa xb))]))
              by_cases hle : xb < xa
              · refine own_Go.st (fun _ kt => XS.ifYes X3.here hx rfl (pc0 := 217) (pc' := 250) rfl (hb hby at_217) rfl ((if0 _ _).trans (tlt ((lw_gt _ _).mpr hle)).2.2.1) (by decide) (by decide) kt) ?_
                show own_Go p e below _ (T3.setTop (mkF m 250 #[.val (.int p0), .val (.int p1), .val (.int p2), .val (.int p3), .val (.long xa), .second, .val (.long xb), .second, .val (.long xm), .second, .val (.ref ao), .val (.int xk), .val (.double (FP.l2d xm)), .second, .unset, .unset, .unset] []))
                refine own_Go.st (fun _ kt => XS.iconst X3.here hx rfl (hb hby at_250) kt) ?_
                show own_Go p e below _ (T3.setTop (mkF m 251 #[.val (.int p0), .val (.int p1), .val (.int p2), .val (.int p3), .val (.long xa), .second, .val (.long xb), .second, .val (.long xm), .second, .val (.ref ao), .val (.int xk), .val (.double (FP.l2d xm)), .second, .unset, .unset, .unset] [(.int (0 : Int32))]))
                refine own_Go.st (fun _ kt => XS.istore X3.here hx rfl (hb hby at_251) rfl (l' := #[.val (.int p0), .val (.int p1), .val (.int p2), .val (.int p3), .val (.long xa), .second, .val (.long xb), .second, .val (.long xm), .second, .val (.ref ao), .val (.int xk), .val (.double (FP.l2d xm)), .second, .val (.int (0 : Int32)), .unset, .unset]) rfl kt) ?_
                show own_Go p e below _ (T3.setTop (mkF m 253 #[.val (.int p0), .val (.int p1), .val (.int p2), .val (.int p3), .val (.long xa), .second, .val (.long xb), .second, .val (.long xm), .second, .val (.ref ao), .val (.int xk), .val (.double (FP.l2d xm)), .second, .val (.int (0 : Int32)), .unset, .unset] []))
                exact J253 _ _ X3 rfl N3 _ _ (own_hv0 (own_B ba) (own_B bb) (own_B bm) (own_out hle))
              · refine own_Go.st (fun _ kt => XS.ifNo X3.here hx rfl (hb hby at_217) rfl ((if0 _ _).trans (flt (mt (lw_gt _ _).mp hle)).2.2.1) kt) ?_
                show own_Go p e below _ (T3.setTop (mkF m 220 #[.val (.int p0), .val (.int p1), .val (.int p2), .val (.int p3), .val (.long xa), .second, .val (.long xb), .second, .val (.long xm), .second, .val (.ref ao), .val (.int xk), .val (.double (FP.l2d xm)), .second, .unset, .unset, .unset] []))
                refine own_Go.st (fun _ kt => XS.lload X3.here hx rfl (hb hby at_220) rfl kt) ?_
                show own_Go p e below _ (T3.setTop (mkF m 222 #[.val (.int p0), .val (.int p1), .val (.int p2), .val (.int p3), .val (.long xa), .second, .val (.long xb), .second, .val (.long xm), .second, .val (.ref ao), .val (.int xk), .val (.double (FP.l2d xm)), .second, .unset, .unset, .unset] [(.long xa)]))
                refine own_Go.st (fun _ kt => XS.lload X3.here hx rfl (hb hby at_222) rfl kt) ?_
                show own_Go p e below _ (T3.setTop (mkF m 224 #[.val (.int p0), .val (.int p1), .val (.int p2), .val (.int p3), .val (.long xa), .second, .val (.long xb), .second, .val (.long xm), .second, .val (.ref ao), .val (.int xk), .val (.double (FP.l2d xm)), .second, .unset, .unset, .unset] [(.long xm), (.long xa)]))
                obtain ⟨_, _, ⟨T9, L9, k9, n9⟩, -, X9, ⟨Lc9, hQ9, l9, y9, z9⟩, st9⟩ := Jvm.LawKit.callS X3 hx (y := (⟨"java/lang/Math", "max", "(JJ)J"⟩ : MethodName)) hown (mvT hZ (hw _ (List.mem_of_getElem? (i := 23) rfl))) (mvT hZ (hw _ (List.mem_of_getElem? (i := 24) rfl))) (mvT hZ (hw _ (List.mem_of_getElem? (i := 25) rfl))) (mvT hZ (hw _ (List.mem_of_getElem? (i := 26) rfl))) (by decide) (backOf (W := 0) (own_max l Z a0 hw [] xa xm T3.heap n0 zz4 ) hZ (hw _ (List.mem_of_getElem? (i := 26) rfl)) (hw _ (List.mem_of_getElem? (i := 25) rfl)) (by decide) (by decide)) (g := (mkF m 224 #[.val (.int p0), .val (.int p1), .val (.int p2), .val (.int p3), .val (.long xa), .second, .val (.long xb), .second, .val (.long xm), .second, .val (.ref ao), .val (.int xk), .val (.double (FP.l2d xm)), .second, .unset, .unset, .unset] [(.long xm), (.long xa)])) rfl (by rw [hml]; rfl) (argsL := [(.long xa), (.long xm)]) (rest := []) (lenOf own_pd3 rfl) rfl (by show 2 * 0 + _ ≤ _; exact Nat.le_of_eq rfl) (hb hby at_224) (fun _ _ => ⟨rfl, rfl, (by decide : 1 + 0 ≤ _), (by decide : 2 + 0 ≤ _)⟩)
                dsimp only [Pt.U, Pt.locs, Pt.cells, Pt.slots] at X9 l9 y9 z9 st9 hQ9
                subst l9 y9 z9
                obtain ⟨rfl, N9q, hh9⟩ := hQ9
                have N9 := Fr.app N3 N9q
                refine own_Go.st (fun _ kt => st9 _ kt) ?_
                show own_Go p e below _ (T9.setTop (mkF m 227 #[.val (.int p0), .val (.int p1), .val (.int p2), .val (.int p3), .val (.long xa), .second, .val (.long xb), .second, .val (.long xm), .second, .val (.ref ao), .val (.int xk), .val (.double (FP.l2d xm)), .second, .unset, .unset, .unset] [(.long (if xa < xm then xm else xa))]))
                refine own_Go.st (fun _ kt => XS.lload X9.here hx rfl (hb hby at_227) rfl kt) ?_
                show own_Go p e below _ (T9.setTop (mkF m 229 #[.val (.int p0), .val (.int p1), .val (.int p2), .val (.int p3), .val (.long xa), .second, .val (.long xb), .second, .val (.long xm), .second, .val (.ref ao), .val (.int xk), .val (.double (FP.l2d xm)), .second, .unset, .unset, .unset] [(.long xm), (.long (if xa < xm then xm else xa))]))
                refine own_Go.st (fun _ kt => XS.lcmp X9.here hx rfl (hb hby at_229) rfl kt) ?_
                show own_Go p e below _ (T9.setTop (mkF m 230 #[.val (.int p0), .val (.int p1), .val (.int p2), .val (.int p3), .val (.long xa), .second, .val (.long xb), .second, .val (.long xm), .second, .val (.ref ao), .val (.int xk), .val (.double (FP.l2d xm)), .second, .unset, .unset, .unset] [(.int (lcmpW (if xa < xm then xm else xa) xm))]))
                by_cases hm1 : (if xa < xm then xm else xa) = xm
                · refine own_Go.st (fun _ kt => XS.ifNo X9.here hx rfl (hb hby at_230) rfl ((if0 _ _).trans (teq ((lw_eq _ _).mpr hm1)).2) kt) ?_
                  show own_Go p e below _ (T9.setTop (mkF m 233 #[.val (.int p0), .val (.int p1), .val (.int p2), .val (.int p3), .val (.long xa), .second, .val (.long xb), .second, .val (.long xm), .second, .val (.ref ao), .val (.int xk), .val (.double (FP.l2d xm)), .second, .unset, .unset, .unset] []))
                  refine own_Go.st (fun _ kt => XS.lload X9.here hx rfl (hb hby at_233) rfl kt) ?_
                  show own_Go p e below _ (T9.setTop (mkF m 235 #[.val (.int p0), .val (.int p1), .val (.int p2), .val (.int p3), .val (.long xa), .second, .val (.long xb), .second, .val (.long xm), .second, .val (.ref ao), .val (.int xk), .val (.double (FP.l2d xm)), .second, .unset, .unset, .unset] [(.long xb)]))
                  refine own_Go.st (fun _ kt => XS.lload X9.here hx rfl (hb hby at_235) rfl kt) ?_
                  show own_Go p e below _ (T9.setTop (mkF m 237 #[.val (.int p0), .val (.int p1), .val (.int p2), .val (.int p3), .val (.long xa), .second, .val (.long xb), .second, .val (.long xm), .second, .val (.ref ao), .val (.int xk), .val (.double (FP.l2d xm)), .second, .unset, .unset, .unset] [(.long xm), (.long xb)]))
                  have g1 : ¬ xm < xa := by
                    by_cases q : xa < xm
                    · rw [Int64.lt_iff_toInt_lt] at *; omega
                    · rw [if_neg q] at hm1; rw [hm1, Int64.lt_iff_toInt_lt]; omega
                  obtain ⟨_, _, ⟨T10, L10, k10, n10⟩, -, X10, ⟨Lc10, hQ10, l10, y10, z10⟩, st10⟩ := Jvm.LawKit.callS X9 hx (y := (⟨"java/lang/Math", "min", "(JJ)J"⟩ : MethodName)) hown (mvT hZ (hw _ (List.mem_of_getElem? (i := 28) rfl))) (mvT hZ (hw _ (List.mem_of_getElem? (i := 29) rfl))) (mvT hZ (hw _ (List.mem_of_getElem? (i := 25) rfl))) (mvT hZ (hw _ (List.mem_of_getElem? (i := 30) rfl))) (by decide) (backOf (W := 0) (own_min l Z a0 hw [] xb xm T3.heap n0 zz4 ) hZ (hw _ (List.mem_of_getElem? (i := 30) rfl)) (hw _ (List.mem_of_getElem? (i := 25) rfl)) (by decide) (by decide)) (g := (mkF m 237 #[.val (.int p0), .val (.int p1), .val (.int p2), .val (.int p3), .val (.long xa), .second, .val (.long xb), .second, .val (.long xm), .second, .val (.ref ao), .val (.int xk), .val (.double (FP.l2d xm)), .second, .unset, .unset, .unset] [(.long xm), (.long xb)])) rfl (by rw [hml]; rfl) (argsL := [(.long xb), (.long xm)]) (rest := []) (lenOf own_pd3 rfl) rfl (by show 2 * 0 + _ ≤ _; exact Nat.le_of_eq rfl) (hb hby at_237) (fun _ _ => ⟨rfl, hh9, (by decide : 1 + 0 ≤ _), (by decide : 2 + 0 ≤ _)⟩)
                  dsimp only [Pt.U, Pt.locs, Pt.cells, Pt.slots] at X10 l10 y10 z10 st10 hQ10
                  subst l10 y10 z10
                  obtain ⟨rfl, N10q, hh10⟩ := hQ10
                  have N10 := Fr.app N9 N10q
                  refine own_Go.st (fun _ kt => st10 _ kt) ?_
                  show own_Go p e below _ (T10.setTop (mkF m 240 #[.val (.int p0), .val (.int p1), .val (.int p2), .val (.int p3), .val (.long xa), .second, .val (.long xb), .second, .val (.long xm), .second, .val (.ref ao), .val (.int xk), .val (.double (FP.l2d xm)), .second, .unset, .unset, .unset] [(.long (if xm < xb then xm else xb))]))
                  refine own_Go.st (fun _ kt => XS.lload X10.here hx rfl (hb hby at_240) rfl kt) ?_
                  show own_Go p e below _ (T10.setTop (mkF m 242 #[.val (.int p0), .val (.int p1), .val (.int p2), .val (.int p3), .val (.long xa), .second, .val (.long xb), .second, .val (.long xm), .second, .val (.ref ao), .val (.int xk), .val (.double (FP.l2d xm)), .second, .unset, .unset, .unset] [(.long xm), (.long (if xm < xb then xm else xb))]))
                  refine own_Go.st (fun _ kt => XS.lcmp X10.here hx rfl (hb hby at_242) rfl kt) ?_
                  show own_Go p e below _ (T10.setTop (mkF m 243 #[.val (.int p0), .val (.int p1), .val (.int p2), .val (.int p3), .val (.long xa), .second, .val (.long xb), .second, .val (.long xm), .second, .val (.ref ao), .val (.int xk), .val (.double (FP.l2d xm)), .second, .unset, .unset, .unset] [(.int (lcmpW (if xm < xb then xm else xb) xm))]))
                  by_cases hm2 : (if xm < xb then xm else xb) = xm
                  · refine own_Go.st (fun _ kt => XS.ifNo X10.here hx rfl (hb hby at_243) rfl ((if0 _ _).trans (teq ((lw_eq _ _).mpr hm2)).2) kt) ?_
                    show own_Go p e below _ (T10.setTop (mkF m 246 #[.val (.int p0), .val (.int p1), .val (.int p2), .val (.int p3), .val (.long xa), .second, .val (.long xb), .second, .val (.long xm), .second, .val (.ref ao), .val (.int xk), .val (.double (FP.l2d xm)), .second, .unset, .unset, .unset] []))
                    refine own_Go.st (fun _ kt => XS.iconst X10.here hx rfl (hb hby at_246) kt) ?_
                    show own_Go p e below _ (T10.setTop (mkF m 247 #[.val (.int p0), .val (.int p1), .val (.int p2), .val (.int p3), .val (.long xa), .second, .val (.long xb), .second, .val (.long xm), .second, .val (.ref ao), .val (.int xk), .val (.double (FP.l2d xm)), .second, .unset, .unset, .unset] [(.int (1 : Int32))]))
                    refine own_Go.st (fun _ kt => XS.goto X10.here hx rfl (pc0 := 247) (pc' := 251) rfl (hb hby at_247) (by decide) (by decide) kt) ?_
                    show own_Go p e below _ (T10.setTop (mkF m 251 #[.val (.int p0), .val (.int p1), .val (.int p2), .val (.int p3), .val (.long xa), .second, .val (.long xb), .second, .val (.long xm), .second, .val (.ref ao), .val (.int xk), .val (.double (FP.l2d xm)), .second, .unset, .unset, .unset] [(.int (1 : Int32))]))
                    refine own_Go.st (fun _ kt => XS.istore X10.here hx rfl (hb hby at_251) rfl (l' := #[.val (.int p0), .val (.int p1), .val (.int p2), .val (.int p3), .val (.long xa), .second, .val (.long xb), .second, .val (.long xm), .second, .val (.ref ao), .val (.int xk), .val (.double (FP.l2d xm)), .second, .val (.int (1 : Int32)), .unset, .unset]) rfl kt) ?_
                    show own_Go p e below _ (T10.setTop (mkF m 253 #[.val (.int p0), .val (.int p1), .val (.int p2), .val (.int p3), .val (.long xa), .second, .val (.long xb), .second, .val (.long xm), .second, .val (.ref ao), .val (.int xk), .val (.double (FP.l2d xm)), .second, .val (.int (1 : Int32)), .unset, .unset] []))
                    have g2 : ¬ xb < xm := by
                      by_cases q : xm < xb
                      · rw [Int64.lt_iff_toInt_lt] at *; omega
                      · rw [if_neg q] at hm2; rw [hm2, Int64.lt_iff_toInt_lt]; omega
                    exact J253 _ _ X10 hh10 N10 _ _ (own_hv1 (own_B ba) (own_B bb) (own_B bm) g1 g2)
                  · refine own_Go.st (fun _ kt => XS.ifYes X10.here hx rfl (pc0 := 243) (pc' := 250) rfl (hb hby at_243) rfl ((if0 _ _).trans (feq (mt (lw_eq _ _).mp hm2)).2) (by decide) (by decide) kt) ?_
                    show own_Go p e below _ (T10.setTop (mkF m 250 #[.val (.int p0), .val (.int p1), .val (.int p2), .val (.int p3), .val (.long xa), .second, .val (.long xb), .second, .val (.long xm), .second, .val (.ref ao), .val (.int xk), .val (.double (FP.l2d xm)), .second, .unset, .unset, .unset] []))
                    refine own_Go.st (fun _ kt => XS.iconst X10.here hx rfl (hb hby at_250) kt) ?_
                    show own_Go p e below _ (T10.setTop (mkF m 251 #[.val (.int p0), .val (.int p1), .val (.int p2), .val (.int p3), .val (.long xa), .second, .val (.long xb), .second, .val (.long xm), .second, .val (.ref ao), .val (.int xk), .val (.double (FP.l2d xm)), .second, .unset, .unset, .unset] [(.int (0 : Int32))]))
                    refine own_Go.st (fun _ kt => XS.istore X10.here hx rfl (hb hby at_251) rfl (l' := #[.val (.int p0), .val (.int p1), .val (.int p2), .val (.int p3), .val (.long xa), .second, .val (.long xb), .second, .val (.long xm), .second, .val (.ref ao), .val (.int xk), .val (.double (FP.l2d xm)), .second, .val (.int (0 : Int32)), .unset, .unset]) rfl kt) ?_
                    show own_Go p e below _ (T10.setTop (mkF m 253 #[.val (.int p0), .val (.int p1), .val (.int p2), .val (.int p3), .val (.long xa), .second, .val (.long xb), .second, .val (.long xm), .second, .val (.ref ao), .val (.int xk), .val (.double (FP.l2d xm)), .second, .val (.int (0 : Int32)), .unset, .unset] []))
                    have g2 : xb < xm := by
                      by_cases q : xm < xb
                      · rw [if_pos q] at hm2; exact absurd rfl hm2
                      · rw [if_neg q] at hm2; rw [Int64.lt_iff_toInt_lt] at *; rw [← Int64.toInt_inj] at hm2; omega
                    exact J253 _ _ X10 hh10 N10 _ _ (own_hv0 (own_B ba) (own_B bb) (own_B bm) (Or.inr g2))
                · refine own_Go.st (fun _ kt => XS.ifYes X9.here hx rfl (pc0 := 230) (pc' := 250) rfl (hb hby at_230) rfl ((if0 _ _).trans (feq (mt (lw_eq _ _).mp hm1)).2) (by decide) (by decide) kt) ?_
                  show own_Go p e below _ (T9.setTop (mkF m 250 #[.val (.int p0), .val (.int p1), .val (.int p2), .val (.int p3), .val (.long xa), .second, .val (.long xb), .second, .val (.long xm), .second, .val (.ref ao), .val (.int xk), .val (.double (FP.l2d xm)), .second, .unset, .unset, .unset] []))
                  refine own_Go.st (fun _ kt => XS.iconst X9.here hx rfl (hb hby at_250) kt) ?_
                  show own_Go p e below _ (T9.setTop (mkF m 251 #[.val (.int p0), .val (.int p1), .val (.int p2), .val (.int p3), .val (.long xa), .second, .val (.long xb), .second, .val (.long xm), .second, .val (.ref ao), .val (.int xk), .val (.double (FP.l2d xm)), .second, .unset, .unset, .unset] [(.int (0 : Int32))]))
                  refine own_Go.st (fun _ kt => XS.istore X9.here hx rfl (hb hby at_251) rfl (l' := #[.val (.int p0), .val (.int p1), .val (.int p2), .val (.int p3), .val (.long xa), .second, .val (.long xb), .second, .val (.long xm), .second, .val (.ref ao), .val (.int xk), .val (.double (FP.l2d xm)), .second, .val (.int (0 : Int32)), .unset, .unset]) rfl kt) ?_
                  show own_Go p e below _ (T9.setTop (mkF m 253 #[.val (.int p0), .val (.int p1), .val (.int p2), .val (.int p3), .val (.long xa), .second, .val (.long xb), .second, .val (.long xm), .second, .val (.ref ao), .val (.int xk), .val (.double (FP.l2d xm)), .second, .val (.int (0 : Int32)), .unset, .unset] []))
                  have g1 : xm < xa := by
                    by_cases q : xa < xm
                    · rw [if_pos q] at hm1; exact absurd rfl hm1
                    · rw [if_neg q] at hm1; rw [Int64.lt_iff_toInt_lt] at *; rw [← Int64.toInt_inj] at hm1; omega
                  exact J253 _ _ X9 hh9 N9 _ _ (own_hv0 (own_B ba) (own_B bb) (own_B bm) (Or.inl g1))
set_option maxRecDepth 65536 in
set_option maxHeartbeats 40000000 in
theorem own_comes_1 {Post : Tables → Env → Array Value → State → Outcome → State → Prop} (hpost : ∀ tb e args s v u, (limb_1_1.after args s (.returned v) u = true ∧ limb_1_2.after args s (.returned v) u = true ∧ True) → FrameEnd s (.returned v) u (Jvm.fieldLocs frame_1_writes args s ++ Jvm.arrayLocs frame_1_arrays args s ++ Jvm.staticLocs frame_1_statics s) 16 128 → Post tb e args s (.returned v) u) :
    ArmFor flags0 classFile x code maxLocals ret World_1 tables_1 room_1 Calls_1 rest_1 Pre_1 Post := by
  intro l hfl _ _ p e ha hc hk s m args below hf hA hF happ hP
  obtain ⟨hcalls, hrest, hpre⟩ := hP
  obtain ⟨-, -, -, hnamed, -, -, -, hat⟩ := (Spec.applies_iff hf).mp happ
  obtain ⟨hg, hn⟩ := and_e (Cond.before_iff.mp (show (Jvm.Cond.and given_1 narrow_1).before args s = true from hpre))
  obtain ⟨hg0, hg1⟩ := and_e hg
  obtain ⟨ha0, hb0⟩ := and_e hg1
  obtain ⟨ha1, hb1⟩ := and_e hb0
  obtain ⟨ha2, hb2⟩ := and_e hb1
  obtain ⟨w0, w1, w2, w3, rfl⟩ : ∃ w0 w1 w2 w3 : Value, args = #[w0, w1, w2, w3] := by
    have hs : args.size = 4 := by simpa [Cond.value, given_1] using hg0
    obtain ⟨L⟩ := args
    match L, hs with
    | [w0, w1, w2, w3], _ => exact ⟨w0, w1, w2, w3, rfl⟩
  have hw := fun d (hd : d ∈ tables_1) => atoms_spec (ws := Jvm.Cond.code x code maxLocals ret :: tables_1) hat d (List.mem_cons_of_mem _ hd)
  have hfit : Fit s := fun {y c} hc i hi => by
    obtain ⟨ha, rfl⟩ := Array.getElem?_eq_some_iff.mp hc
    have q := List.all_eq_true.mp ((Array.all_eq_true_iff_forall_mem.mp hF) _ (Array.getElem_mem ha)) i (List.mem_range.mpr hi)
    simpa [Array.getElem?_eq_getElem hi] using q
  obtain ⟨p0, ep0⟩ := is_v ha0
  obtain rfl : w0 = (.int p0) := Option.some.inj ep0
  obtain ⟨p1, ep1⟩ := is_v ha1
  obtain rfl : w1 = (.int p1) := Option.some.inj ep1
  obtain ⟨p2, ep2⟩ := is_v ha2
  obtain rfl : w2 = (.int p2) := Option.some.inj ep2
  obtain ⟨p3, ep3⟩ := is_v hb2
  obtain rfl : w3 = (.int p3) := Option.some.inj ep3

  obtain ⟨n, o, h1, h2, h3, _, L, rfl, ⟨rfl, N⟩, hq⟩ := own_law l s _ hw tables_1 p0 p1 p2 p3  s.heap s.heap.size (Nat.le_refl _)  p e ha hc hk s m _ below hf ((Spec.applies_iff_loose hf).mp happ).1 ⟨rfl, State.Warmed39.refl s, rfl⟩ trivial
  refine ⟨n, _, h1, h2, h3, hpost _ _ _ _ _ _ ⟨Cond.after_iff.mpr rfl, Cond.after_iff.mpr (eq_i res_at (Term.int_eval (1)) rfl), trivial⟩ ⟨hq.1, hq.2.1, (hq.2.2.sift fun y hy => Or.inr (N y hy)).mono (by decide) (by decide)⟩⟩
theorem main_1_1 : Claimed_1_1 := own_comes_1 fun _ _ _ _ _ _ h hF => ⟨h.1, hF⟩
theorem main_1_2 : Claimed_1_2 := own_comes_1 fun _ _ _ _ _ _ h hF => ⟨h.2.1, hF⟩

end Jvm.Pilot.@@N@@
namespace Jvm.Pilot.@@N@@
open Jvm Jvm.ClassFile Sem Op Lib Jvm.Free Jvm.Stand Jvm.Pilot.@@N@@.Jvm.D
/-! MADE BY PROGRAM (witnessworld.py) out of the Statement's table words and the real class files: 11 classes; the members and pool entries that the words name. The judged class is class 1, her method 1. -/
namespace start1
open Jvm.ClassFile
def u (s : String) : CpInfo := .utf8 (stringToUtf16 s)
/-- a pool by its gaps: so many unusable entries, then the entry; so many at the end -/
def gap : Nat → List CpInfo → List CpInfo
  | 0, r => r
  | n + 1, r => .unusable :: gap n r
def poolList (es : List (Nat × CpInfo)) (last : Nat) : List CpInfo := es.foldr (fun e r => gap e.1 (e.2 :: r)) (gap last [])
def pool (es : List (Nat × CpInfo)) (last : Nat) : Array CpInfo := ⟨poolList es last⟩
def fileOf (pool : Array CpInfo) (this : Nat) (attrs : Array Attribute := #[]) (ms : Array MethodInfo := #[]) (fl : Nat := 33) (sup : Nat := 0) (ifs : Array Nat := #[]) (fds : Array FieldInfo := #[]) : ClassFile where
  minorVersion := 0
  majorVersion := 65
  constantPool := pool
  accessFlags := fl
  thisClass := this
  superClass := sup
  interfaces := ifs
  fields := fds
  methods := ms
  attributes := attrs
def plain (name : String) (sup : Option ClassId) : Class where
  name := name
  kind := .ordinary
  loader := none
  accessFlags := 33
  super := sup
  interfaces := #[]
  cf := none
  fields := #[]
  methods := #[]
  instanceTypes := #[]
  staticTypes := #[]
  resolved := #[]
  callSites := []
  init := .initialized
  statics := none
  mirror := none

def pool0 : Array CpInfo := pool [(5, u "<init>"), (0, u "()V"), (1, .class_ 10), (1, u "java/lang/Object")] 113

def k0c0 : Code := { maxStack := 0, maxLocals := 1, code := object_method_1_code, exceptionTable := #[], attributes := #[] }
def k0m0 : Method := { name := "<init>", desc := "()V", sig := { parameters := [], returnType := none }, accessFlags := 1, code := some k0c0 }
/-- java/lang/Object -/
def k0 : Class := { plain "java/lang/Object" none with
  accessFlags := 33
  interfaces := #[]
  cf := some (fileOf pool0 8 #[] #[{ accessFlags := 1, nameIndex := 5, descriptorIndex := 6, attributes := #[] }] 33 0 #[] #[])
  fields := #[]
  methods := #[k0m0]
  instanceTypes := #[]
  staticTypes := #[]
  resolved := Array.replicate 124 none
  statics := none }

def pool1 : Array CpInfo := pool [(2, .class_ 4), (1, u "java/lang/Object"), (0, u "<init>"), (0, u "()V"), (0, .class_ 8), (0, u "com/example/wallingford/wallingford/mass/MzRange"), (0, .methodref 7 10), (0, .nameAndType 5 11), (0, u "(DD)V"), (0, .long 2), (1, .double 9223372036854775808), (1, .methodref 17 18), (0, .class_ 19), (0, .nameAndType 20 21), (0, u "java/lang/Math"), (0, u "max"), (0, u "(JJ)J"), (0, .methodref 17 23), (0, .nameAndType 24 21), (0, u "min"), (0, .methodref 7 26), (0, .nameAndType 27 28), (0, u "holds"), (0, u "(D)Z"), (0, .class_ 30), (0, u "com/example/wallingford/wallingford/mass/MzRangeHoldsPinLaw"), (2, u "law"), (0, u "(IIII)Z")] 3

def k1m0 : Method := { name := "<init>", desc := "()V", sig := { parameters := [], returnType := none }, accessFlags := 1, code := none }
def k1c1 : Code := { maxStack := 6, maxLocals := 17, code := code, exceptionTable := #[], attributes := #[] }
def k1m1 : Method := { name := "law", desc := "(IIII)Z", sig := { parameters := [.int, .int, .int, .int], returnType := some .boolean }, accessFlags := 9, code := some k1c1 }
/-- com/example/wallingford/wallingford/mass/MzRangeHoldsPinLaw -/
def k1 : Class := { plain "com/example/wallingford/wallingford/mass/MzRangeHoldsPinLaw" (some 0) with
  accessFlags := 49
  interfaces := #[]
  cf := some (fileOf pool1 29 #[] #[{ accessFlags := 1, nameIndex := 5, descriptorIndex := 6, attributes := #[] }, { accessFlags := 9, nameIndex := 33, descriptorIndex := 34, attributes := #[] }] 49 2 #[] #[])
  fields := #[]
  methods := #[k1m0, k1m1]
  instanceTypes := #[]
  staticTypes := #[]
  resolved := Array.replicate 38 none
  statics := none }

def pool2 : Array CpInfo := pool [(1, .methodref 2 3), (0, .class_ 4), (0, .nameAndType 5 6), (0, u "java/lang/Object"), (0, u "<init>"), (0, u "()V"), (0, .class_ 8), (0, u "java/lang/Record")] 13

def k2c0 : Code := { maxStack := 1, maxLocals := 1, code := jdk_30_method_1_code, exceptionTable := #[], attributes := #[] }
def k2m0 : Method := { name := "<init>", desc := "()V", sig := { parameters := [], returnType := none }, accessFlags := 4, code := some k2c0 }
/-- java/lang/Record -/
def k2 : Class := { plain "java/lang/Record" (some 0) with
  accessFlags := 1057
  interfaces := #[]
  cf := some (fileOf pool2 7 #[] #[{ accessFlags := 4, nameIndex := 5, descriptorIndex := 6, attributes := #[] }] 1057 2 #[] #[])
  fields := #[]
  methods := #[k2m0]
  instanceTypes := #[]
  staticTypes := #[]
  resolved := Array.replicate 22 none
  statics := none }

def pool3 : Array CpInfo := pool [(1, .methodref 2 3), (0, .class_ 4), (0, .nameAndType 5 6), (0, u "java/lang/Record"), (0, u "<init>"), (0, u "()V"), (0, .fieldref 8 9), (0, .class_ 10), (0, .nameAndType 11 12), (0, u "com/example/wallingford/wallingford/mass/MzRange"), (0, u "lowMz"), (0, u "D"), (0, .fieldref 8 14), (0, .nameAndType 15 12), (0, u "highMz"), (12, u "(DD)V"), (3, u "holds"), (0, u "(D)Z")] 26

def k3c0 : Code := { maxStack := 3, maxLocals := 5, code := prog_35_method_1_code, exceptionTable := #[], attributes := #[] }
def k3m0 : Method := { name := "<init>", desc := "(DD)V", sig := { parameters := [.double, .double], returnType := none }, accessFlags := 1, code := some k3c0 }
def k3c1 : Code := { maxStack := 4, maxLocals := 3, code := prog_35_method_2_code, exceptionTable := #[], attributes := #[] }
def k3m1 : Method := { name := "holds", desc := "(D)Z", sig := { parameters := [.double], returnType := some .boolean }, accessFlags := 1, code := some k3c1 }
/-- com/example/wallingford/wallingford/mass/MzRange -/
def k3 : Class := { plain "com/example/wallingford/wallingford/mass/MzRange" (some 2) with
  accessFlags := 49
  interfaces := #[]
  cf := some (fileOf pool3 8 #[] #[{ accessFlags := 1, nameIndex := 5, descriptorIndex := 28, attributes := #[] }, { accessFlags := 1, nameIndex := 32, descriptorIndex := 33, attributes := #[] }] 49 2 #[] #[{ accessFlags := 18, nameIndex := 11, descriptorIndex := 12, attributes := #[] }, { accessFlags := 18, nameIndex := 15, descriptorIndex := 12, attributes := #[] }])
  fields := #[{ name := "lowMz", type := .double, accessFlags := 18, slot := 0, constantValue := 0 }, { name := "highMz", type := .double, accessFlags := 18, slot := 1, constantValue := 0 }]
  methods := #[k3m0, k3m1]
  instanceTypes := #[.double, .double]
  staticTypes := #[]
  resolved := Array.replicate 60 none
  statics := none }

def pool4 : Array CpInfo := pool [(1, .class_ 2), (0, u "java/lang/Math"), (1, .class_ 6), (1, u "java/lang/Object"), (0, u "<init>"), (0, u "()V"), (89, .class_ 100), (1, u "java/lang/Math$RandomNumberGeneratorHolder"), (20, u "(JJ)J"), (50, u "negativeZeroFloatBits"), (0, u "J"), (2, u "negativeZeroDoubleBits"), (21, u "max"), (2, u "min"), (43, u "$assertionsDisabled"), (0, u "Z"), (91, u "twoToTheDoubleScaleDown"), (0, u "D"), (4, u "twoToTheDoubleScaleUp"), (9, u "E"), (3, u "PI"), (2, u "TAU"), (2, u "DEGREES_TO_RADIANS"), (0, u "RADIANS_TO_DEGREES")] 94

def k4m0 : Method := { name := "<init>", desc := "()V", sig := { parameters := [], returnType := none }, accessFlags := 2, code := none }
def k4c1 : Code := { maxStack := 4, maxLocals := 4, code := jdk_29_method_66_code, exceptionTable := #[], attributes := #[] }
def k4m1 : Method := { name := "max", desc := "(JJ)J", sig := { parameters := [.long, .long], returnType := some .long }, accessFlags := 9, code := some k4c1 }
def k4c2 : Code := { maxStack := 4, maxLocals := 4, code := jdk_29_method_70_code, exceptionTable := #[], attributes := #[] }
def k4m2 : Method := { name := "min", desc := "(JJ)J", sig := { parameters := [.long, .long], returnType := some .long }, accessFlags := 9, code := some k4c2 }
/-- java/lang/Math -/
def k4 : Class := { plain "java/lang/Math" (some 0) with
  accessFlags := 49
  interfaces := #[]
  cf := some (fileOf pool4 1 #[.nestMembers #[98]] #[{ accessFlags := 2, nameIndex := 7, descriptorIndex := 8, attributes := #[] }, { accessFlags := 9, nameIndex := 198, descriptorIndex := 121, attributes := #[] }, { accessFlags := 9, nameIndex := 201, descriptorIndex := 121, attributes := #[] }] 49 4 #[] #[{ accessFlags := 25, nameIndex := 354, descriptorIndex := 339, attributes := #[] }, { accessFlags := 25, nameIndex := 358, descriptorIndex := 339, attributes := #[] }, { accessFlags := 25, nameIndex := 361, descriptorIndex := 339, attributes := #[] }, { accessFlags := 26, nameIndex := 364, descriptorIndex := 339, attributes := #[] }, { accessFlags := 26, nameIndex := 365, descriptorIndex := 339, attributes := #[] }, { accessFlags := 26, nameIndex := 172, descriptorIndex := 173, attributes := #[] }, { accessFlags := 26, nameIndex := 176, descriptorIndex := 173, attributes := #[] }, { accessFlags := 8, nameIndex := 344, descriptorIndex := 339, attributes := #[] }, { accessFlags := 8, nameIndex := 338, descriptorIndex := 339, attributes := #[] }, { accessFlags := 4120, nameIndex := 245, descriptorIndex := 246, attributes := #[] }])
  fields := #[{ name := "E", type := .double, accessFlags := 25, slot := 0, constantValue := 0 }, { name := "PI", type := .double, accessFlags := 25, slot := 1, constantValue := 0 }, { name := "TAU", type := .double, accessFlags := 25, slot := 2, constantValue := 0 }, { name := "DEGREES_TO_RADIANS", type := .double, accessFlags := 26, slot := 3, constantValue := 0 }, { name := "RADIANS_TO_DEGREES", type := .double, accessFlags := 26, slot := 4, constantValue := 0 }, { name := "negativeZeroFloatBits", type := .long, accessFlags := 26, slot := 5, constantValue := 0 }, { name := "negativeZeroDoubleBits", type := .long, accessFlags := 26, slot := 6, constantValue := 0 }, { name := "twoToTheDoubleScaleUp", type := .double, accessFlags := 8, slot := 7, constantValue := 0 }, { name := "twoToTheDoubleScaleDown", type := .double, accessFlags := 8, slot := 8, constantValue := 0 }, { name := "$assertionsDisabled", type := .boolean, accessFlags := 4120, slot := 9, constantValue := 0 }]
  methods := #[k4m0, k4m1, k4m2]
  instanceTypes := #[]
  staticTypes := #[.double, .double, .double, .double, .double, .long, .long, .double, .double, .boolean]
  resolved := Array.replicate 460 none
  statics := none }

def pool5 : Array CpInfo := pool [(1, u "java/lang/Cloneable"), (0, .class_ 1), (0, u "java/lang/Object"), (0, .class_ 3)] 3

/-- java/lang/Cloneable -/
def k5 : Class := { plain "java/lang/Cloneable" (some 0) with
  accessFlags := 1537
  interfaces := #[]
  cf := some (fileOf pool5 2 #[] #[] 1537 4 #[] #[])
  fields := #[]
  methods := #[]
  instanceTypes := #[]
  staticTypes := #[]
  resolved := Array.replicate 8 none
  statics := none }

def pool6 : Array CpInfo := pool [(1, u "java/io/Serializable"), (0, .class_ 1), (0, u "java/lang/Object"), (0, .class_ 3)] 3

/-- java/io/Serializable -/
def k6 : Class := { plain "java/io/Serializable" (some 0) with
  accessFlags := 1537
  interfaces := #[]
  cf := some (fileOf pool6 2 #[] #[] 1537 4 #[] #[])
  fields := #[]
  methods := #[]
  instanceTypes := #[]
  staticTypes := #[]
  resolved := Array.replicate 8 none
  statics := none }

/-- the primitive byte -/
def k7 : Class := { plain "byte" none with kind := .primitive 'B', accessFlags := 0x411 }
/-- [B -/
def k8 : Class := { plain "[B" (some 0) with kind := .array 7 .byte, interfaces := #[5, 6], accessFlags := 1041 }

/-- the primitive int -/
def k9 : Class := { plain "int" none with kind := .primitive 'I', accessFlags := 0x411 }
/-- [I -/
def k10 : Class := { plain "[I" (some 0) with kind := .array 9 .int, interfaces := #[5, 6], accessFlags := 1041 }

def heap : Heap := #[]
def classes : Array Class := #[k0, k1, k2, k3, k4, k5, k6, k7, k8, k9, k10]
def interned : List (Array UInt16 × Addr) := []
def slotsUsed : Nat := 0
def theMethod : MethodId := ⟨1, 1⟩
def args0 : Array Value := #[.int 5, .int 9, .int 7, .int 4]
def aboutOver (below : List Frame) : State where
  vm := { classes := classes, interned := interned.toArray }
  heap := heap
  slotsUsed := slotsUsed
  threads := #[{ frames := .invoking theMethod args0 :: below }]
def below0 : List Frame := [.native { method := ⟨0, 0⟩, args := #[] }]
def about1 : State := aboutOver below0
def p0 : Program := .bare "" "" ""
def e0 : Env := launch0.env 0 0 0
theorem w_frames : about1.frames = Frame.invoking theMethod args0 :: below0 := rfl
set_option maxRecDepth 65536 in
theorem w_args : argsFit about1.vm theMethod args0 = true := by decide +kernel
set_option maxRecDepth 65536 in
theorem w_heap : heapFits about1 = true := by decide +kernel
set_option maxRecDepth 65536 in
theorem w_runnable : about1.curStatus? = some .runnable := by decide +kernel
set_option maxRecDepth 65536 in
theorem w_alone : about1.alone = true := by decide +kernel
set_option maxRecDepth 65536 in
theorem w_named : about1.methodNamed? x = some theMethod := by decide +kernel
set_option maxRecDepth 65536 in
theorem w_hears : about1.hears theMethod below0 = true := by decide +kernel
set_option maxRecDepth 65536 in
theorem w_ripe : about1.ripe theMethod args0 below0 = true := by decide +kernel
theorem w_running : about1.status = .running := rfl
set_option maxRecDepth 65536 in
theorem w_room : about1.hasRoom e0.platform room_1 = true :=
  launch0.hasRoom_least _ room_1 (by decide +kernel) (by decide +kernel) (by decide +kernel) (by decide +kernel) (by decide +kernel) (by decide +kernel)
theorem allAtoms_all (ts : List Jvm.Cond) (a : Array Jvm.Value) (st : Jvm.State) : (allAtoms ts).before a st = ts.all (fun c => c.before a st) := by
  induction ts with
  | nil => rfl
  | cons c t ih =>
    show (Jvm.Cond.and c (allAtoms t)).before a st = _
    rw [Jvm.Cond.before_and, ih, List.all_cons]
def words1 : List Jvm.Cond := Jvm.Cond.code x code maxLocals ret :: tables_1
/-- a 'code' word, met by the world's own term for the bytes: nothing is compared byte by byte -/
theorem code_word {y : MethodName} {bytes : ByteArray} {mx : Nat} {rt : Option FieldType} {a : Array Value} {s : State} {m : MethodId} {meth : Method} {c : Code} (h1 : s.methodNamed? y = some m) (h2 : s.vm.method? m = some meth) (h3 : meth.code = some c) (h4 : c.code = bytes)
    (h5 : (c.maxLocals == mx && c.exceptionTable.isEmpty && decide (c.maxStack ≤ mostOperands) && decide (meth.sig.returnType = rt) && !meth.locks && decide (parseMethodDescriptor y.desc = some meth.sig)) = true) : (Jvm.Cond.code y bytes mx rt).before a s = true := by
  simp only [Bool.and_eq_true, beq_iff_eq, Bool.not_eq_true', decide_eq_true_eq] at h5
  obtain ⟨⟨⟨⟨⟨g1, g2⟩, g3⟩, g4⟩, g5⟩, g6⟩ := h5
  simp [Cond.before, Cond.holds, Cond.value, h1, h2, h3, h4, g1, g2, g3, g4, g5, g6]
def isCode : Jvm.Cond → Bool
  | .code _ _ _ _ => true
  | _ => false
theorem all_split {L : List Jvm.Cond} {P : Jvm.Cond → Bool} (h1 : L.all (fun c => isCode c || P c) = true) (h2 : ∀ c ∈ L.filter isCode, P c = true) : L.all P = true := by
  refine List.all_eq_true.mpr fun c hc => ?_
  have h := List.all_eq_true.mp h1 c hc
  rcases Bool.eq_false_or_eq_true (isCode c) with hi | hi
  · exact h2 c (List.mem_filter.mpr ⟨hc, hi⟩)
  · simpa [hi] using h
set_option maxRecDepth 65536 in
theorem w_c0 : (Jvm.Cond.code x code maxLocals ret).before args0 about1 = true := code_word (m := ⟨1, 1⟩) (meth := k1m1) (c := k1c1) (by decide +kernel) rfl rfl rfl (by decide +kernel)
set_option maxRecDepth 65536 in
theorem w_c1 : (Jvm.Cond.code ({ cls := "com/example/wallingford/wallingford/mass/MzRange", name := "<init>", desc := "(DD)V" } : Jvm.MethodName) prog_35_method_1_code (5 : Nat) (Option.none : Option Jvm.ClassFile.FieldType)).before args0 about1 = true := code_word (m := ⟨3, 0⟩) (meth := k3m0) (c := k3c0) (by decide +kernel) rfl rfl rfl (by decide +kernel)
set_option maxRecDepth 65536 in
theorem w_c2 : (Jvm.Cond.code ({ cls := "java/lang/Record", name := "<init>", desc := "()V" } : Jvm.MethodName) jdk_30_method_1_code (1 : Nat) (Option.none : Option Jvm.ClassFile.FieldType)).before args0 about1 = true := code_word (m := ⟨2, 0⟩) (meth := k2m0) (c := k2c0) (by decide +kernel) rfl rfl rfl (by decide +kernel)
set_option maxRecDepth 65536 in
theorem w_c3 : (Jvm.Cond.code ({ cls := "java/lang/Object", name := "<init>", desc := "()V" } : Jvm.MethodName) object_method_1_code (1 : Nat) (Option.none : Option Jvm.ClassFile.FieldType)).before args0 about1 = true := code_word (m := ⟨0, 0⟩) (meth := k0m0) (c := k0c0) (by decide +kernel) rfl rfl rfl (by decide +kernel)
set_option maxRecDepth 65536 in
theorem w_c4 : (Jvm.Cond.code ({ cls := "com/example/wallingford/wallingford/mass/MzRange", name := "holds", desc := "(D)Z" } : Jvm.MethodName) prog_35_method_2_code (3 : Nat) (Option.some Jvm.ClassFile.FieldType.boolean)).before args0 about1 = true := code_word (m := ⟨3, 1⟩) (meth := k3m1) (c := k3c1) (by decide +kernel) rfl rfl rfl (by decide +kernel)
set_option maxRecDepth 65536 in
theorem w_c5 : (Jvm.Cond.code ({ cls := "java/lang/Math", name := "max", desc := "(JJ)J" } : Jvm.MethodName) jdk_29_method_66_code (4 : Nat) (Option.some Jvm.ClassFile.FieldType.long)).before args0 about1 = true := code_word (m := ⟨4, 1⟩) (meth := k4m1) (c := k4c1) (by decide +kernel) rfl rfl rfl (by decide +kernel)
set_option maxRecDepth 65536 in
theorem w_c6 : (Jvm.Cond.code ({ cls := "java/lang/Math", name := "min", desc := "(JJ)J" } : Jvm.MethodName) jdk_29_method_70_code (4 : Nat) (Option.some Jvm.ClassFile.FieldType.long)).before args0 about1 = true := code_word (m := ⟨4, 2⟩) (meth := k4m2) (c := k4c2) (by decide +kernel) rfl rfl rfl (by decide +kernel)
def codes1 : List Jvm.Cond := [Jvm.Cond.code x code maxLocals ret, Jvm.Cond.code ({ cls := "com/example/wallingford/wallingford/mass/MzRange", name := "<init>", desc := "(DD)V" } : Jvm.MethodName) prog_35_method_1_code (5 : Nat) (Option.none : Option Jvm.ClassFile.FieldType), Jvm.Cond.code ({ cls := "java/lang/Record", name := "<init>", desc := "()V" } : Jvm.MethodName) jdk_30_method_1_code (1 : Nat) (Option.none : Option Jvm.ClassFile.FieldType), Jvm.Cond.code ({ cls := "java/lang/Object", name := "<init>", desc := "()V" } : Jvm.MethodName) object_method_1_code (1 : Nat) (Option.none : Option Jvm.ClassFile.FieldType), Jvm.Cond.code ({ cls := "com/example/wallingford/wallingford/mass/MzRange", name := "holds", desc := "(D)Z" } : Jvm.MethodName) prog_35_method_2_code (3 : Nat) (Option.some Jvm.ClassFile.FieldType.boolean), Jvm.Cond.code ({ cls := "java/lang/Math", name := "max", desc := "(JJ)J" } : Jvm.MethodName) jdk_29_method_66_code (4 : Nat) (Option.some Jvm.ClassFile.FieldType.long), Jvm.Cond.code ({ cls := "java/lang/Math", name := "min", desc := "(JJ)J" } : Jvm.MethodName) jdk_29_method_70_code (4 : Nat) (Option.some Jvm.ClassFile.FieldType.long)]
set_option maxRecDepth 65536 in
theorem codes_eq : words1.filter isCode = codes1 := rfl
theorem w_codes : ∀ c ∈ words1.filter isCode, c.before args0 about1 = true := by
  rw [codes_eq]
  intro c hc
  simp only [codes1, List.mem_cons, List.not_mem_nil, or_false] at hc
  rcases hc with rfl | rfl | rfl | rfl | rfl | rfl | rfl
  · exact w_c0
  · exact w_c1
  · exact w_c2
  · exact w_c3
  · exact w_c4
  · exact w_c5
  · exact w_c6
set_option maxRecDepth 65536 in
theorem w_t1 : (words1.take 24).all (fun c => isCode c || c.before args0 about1) = true := by decide +kernel
set_option maxRecDepth 65536 in
theorem w_t2 : (words1.drop 24).all (fun c => isCode c || c.before args0 about1) = true := by decide +kernel
theorem w_tables : (allAtoms (Jvm.Cond.code x code maxLocals ret :: tables_1)).before args0 about1 = true := by
  rw [allAtoms_all]
  show words1.all (fun c => c.before args0 about1) = true
  refine all_split ?_ w_codes
  rw [← List.take_append_drop 24 words1, List.all_append, w_t1, w_t2]
  rfl
set_option maxRecDepth 65536 in
theorem w_case : (Jvm.Cond.and given_1 narrow_1).before args0 about1 = true := by decide +kernel
theorem w_applies : (headSpec (Jvm.Cond.code x code maxLocals ret :: tables_1) room_1).applies x e0.platform about1 = true :=
  (Spec.applies_iff w_frames).mpr ⟨w_running, w_runnable, w_alone, w_named, w_hears, w_ripe, w_room, w_tables⟩
theorem atStart : AtStart classFile x code maxLocals ret World_1 tables_1 room_1 Calls_1 rest_1 Pre_1 launch0 p0 e0 about1 theMethod args0 below0 :=
  ⟨lists_1, trivial, launch0.admits_env _ _ _, launch0.least_env, fairChoices_fair.cas, fairChoices_fair.clock, w_frames, w_args, w_heap, w_applies, trivial, trivial, w_case⟩
end start1
theorem witness_1 : WitnessClaimed_1 := ⟨start1.p0, start1.e0, start1.about1, start1.theMethod, start1.args0, start1.below0, start1.atStart⟩
end Jvm.Pilot.@@N@@
